import JvmDerived
import JvmDerived.Pilot.@@N@@Statement
import JvmDerived.Pilot.@@N@@Code
set_option linter.unusedVariables false
set_option linter.unusedSimpArgs false
@@BLOCK:NumsL.lean.txt@@
namespace Jvm.RoadKit
open Sem ClassFile Op Lib Jvm.Stand Jvm.Free Jvm.LawKit
section New
variable {p : Program} {l : Launch} {e : Env} {R : Room} {s : State} {m : MethodId} {args : Array Value} {below : List Frame} {meth : Method} {c : Code} {T : State} {locs : List Loc} {cells slots : Nat}
theorem retI (X : Stand p l e R s m args below meth c T locs cells slots) (hx : p.tables.exec = Jvm.exec) {pc : Nat} {Ls : Array Slot} {z : Int32} {rest : List Value} (hret : meth.sig.returnType = some .int) (hd : decode c.code pc = .ok (.ireturn, 1)) {fs : List Frame}
    (hl : ∀ (f : JFrame) (acts : List Action), f.method = m → f.locked = none → f.entered = [] → (doReturn e (T.setTop f) acts (some (.int z))).1 = T.setFrames fs) : Steps p.tables e below (T.setTop (mkF m pc Ls (.int z :: rest))) (T.setFrames fs) := by
  have hm' : T.vm.method? m = some meth := X.method'
  have hn : narrow .int (.int z) = .int z := rfl
  show Steps p.tables e below (T.setTop { method := m, pc := pc, locals := Ls, stack := _ :: rest, locked := none }) _
  jvm_step X.here [X.here.top, hx, hd, hm', hret, hn]
  first | (intro acts; rw [hl _ acts rfl rfl rfl]) | rw [hl _ _ rfl rfl rfl]
  exact Steps.refl _
end New
end Jvm.RoadKit
namespace Jvm.Pilot.@@N@@
open Jvm Jvm.ClassFile Sem Op Lib Jvm.Free Jvm.Stand Jvm.LawKit Jvm.RoadKit Bundle Jvm.Pilot.@@N@@.Jvm.D
section Own
variable {p : Program} {l : Launch} {e : Env} {R : Room} {s : State} {m : MethodId} {args : Array Value} {below : List Frame} {meth : Method} {c : Code} {T : State} {locs : List Loc} {cells slots : Nat}
/-- the run goes on from S to its end, and P holds there -/
def own_Goes (tb : Tables) (e : Env) (below : List Frame) (S : State) (P : State → Outcome → Prop) : Prop :=
  ∃ s₂ o, Steps tb e below S s₂ ∧ s₂.status = .running ∧ Ended s₂ below o ∧ P s₂ o
theorem own_step {tb : Tables} {S S' : State} {P : State → Outcome → Prop} (h : ∀ t, Steps tb e below S' t → Steps tb e below S t) (k : own_Goes tb e below S' P) : own_Goes tb e below S P := by
  obtain ⟨s₂, o, h1, h2⟩ := k
  exact ⟨s₂, o, h _ h1, h2⟩
theorem own_enter {tb : Tables} {g g' : JFrame} {P : State → Outcome → Prop} (q : g = g') (k : own_Goes tb e below (T.setTop g') P) : own_Goes tb e below (T.setTop g) P := q ▸ k
def own_P (s : State) (Q : Option Value → Heap → List Loc → Prop) (C K : Nat) : State → Outcome → Prop := fun U o => ∃ v L, o = .returned v ∧ Q v U.heap L ∧ FrameEnd s o U L C K
/-- a body that writes nothing -/
def own_Qp (w : Option Value) (h0 : Heap) (v : Option Value) (h : Heap) (L : List Loc) : Prop := v = w ∧ L = [] ∧ h = h0
/-- a body that makes cells and writes none that stood before -/
def own_Qa (w : Option Value) (h0 : Heap) (n0 : Nat) (v : Option Value) (h : Heap) (L : List Loc) : Prop := v = w ∧ Fr n0 L ∧ Keep h0 h []
/-- the law -/
def own_Ql (w : Option Value) (n0 : Nat) (v : Option Value) (h : Heap) (L : List Loc) : Prop := v = w ∧ Fr n0 L
variable {Q : Option Value → Heap → List Loc → Prop} {C K : Nat}
theorem own_retI (X : Stand p l e R s m args below meth c T locs cells slots) (hx : p.tables.exec = Jvm.exec) {pc : Nat} {Ls : Array Slot} {z : Int32} {rest : List Value} (hret : meth.sig.returnType = some .int) (hd : decode c.code pc = .ok (.ireturn, 1)) (hk : meth.locks = false)
    (hQ : Q (some (.int z)) T.heap locs) (hc : cells ≤ C) (hs : slots ≤ K) : own_Goes p.tables e below (T.setTop (mkF m pc Ls (.int z :: rest))) (own_P s Q C K) := by
  obtain ⟨fs, hr, hrun, hended, hW, hsame⟩ := X.leave (v := some (.int z)) (fun h => by rw [hret] at h; cases h) hk
  exact ⟨_, _, retI X hx hret hd hr, hrun, hended, _, _, rfl, hQ, ⟨_, rfl⟩, hW, hsame.mono hc hs⟩
theorem own_retN (X : Stand p l e R s m args below meth c T locs cells slots) (hx : p.tables.exec = Jvm.exec) {pc : Nat} {Ls : Array Slot} {z : Int32} {t : FieldType} {rest : List Value} (hret : meth.sig.returnType = some t) (ht : t = .boolean ∨ t = .byte ∨ t = .char ∨ t = .short) (hd : decode c.code pc = .ok (.ireturn, 1)) (hk : meth.locks = false)
    {w : Int32} (hw : nar t z = w) (hQ : Q (some (.int w)) T.heap locs) (hc : cells ≤ C) (hs : slots ≤ K) : own_Goes p.tables e below (T.setTop (mkF m pc Ls (.int z :: rest))) (own_P s Q C K) := by
  subst hw
  obtain ⟨fs, hr, hrun, hended, hW, hsame⟩ := X.leave (v := some (.int (nar t z))) (fun h => by rw [hret] at h; cases h) hk
  exact ⟨_, _, retN X hx hret ht hd hr, hrun, hended, _, _, rfl, hQ, ⟨_, rfl⟩, hW, hsame.mono hc hs⟩
theorem own_retJ (X : Stand p l e R s m args below meth c T locs cells slots) (hx : p.tables.exec = Jvm.exec) {pc : Nat} {Ls : Array Slot} {z : Int64} (hret : meth.sig.returnType = some .long) (hd : decode c.code pc = .ok (.lreturn, 1)) (hk : meth.locks = false)
    (hQ : Q (some (.long z)) T.heap locs) (hc : cells ≤ C) (hs : slots ≤ K) : own_Goes p.tables e below (T.setTop (mkF m pc Ls [.long z])) (own_P s Q C K) := by
  obtain ⟨fs, hr, hrun, hended, hW, hsame⟩ := X.leave (v := some (.long z)) (fun h => by rw [hret] at h; cases h) hk
  exact ⟨_, _, X.lreturnOut hx hret hd hr, hrun, hended, _, _, rfl, hQ, ⟨_, rfl⟩, hW, hsame.mono hc hs⟩
theorem own_retV (X : Stand p l e R s m args below meth c T locs cells slots) (hx : p.tables.exec = Jvm.exec) {pc : Nat} {Ls : Array Slot} (hret : meth.sig.returnType = none) (hd : decode c.code pc = .ok (.return_, 1)) (hk : meth.locks = false)
    (hQ : Q none T.heap locs) (hc : cells ≤ C) (hs : slots ≤ K) : own_Goes p.tables e below (T.setTop (mkF m pc Ls [])) (own_P s Q C K) := by
  obtain ⟨fs, hr, hrun, hended, hW, hsame⟩ := X.leave (v := none) (fun _ => rfl) hk
  exact ⟨_, _, X.returnOut hx hret hd hr, hrun, hended, _, _, rfl, hQ, ⟨_, rfl⟩, hW, hsame.mono hc hs⟩
theorem own_retA (X : Stand p l e R s m args below meth c T locs cells slots) (hx : p.tables.exec = Jvm.exec) {pc : Nat} {Ls : Array Slot} {z : Addr} {t : FieldType} {rest : List Value} (hret : meth.sig.returnType = some t) (hd : decode c.code pc = .ok (.areturn, 1)) (hk : meth.locks = false)
    (ht : t.isReference = true) (hn : narrow t (.ref z) = .ref z) (hQ : Q (some (.ref z)) T.heap locs) (hc : cells ≤ C) (hs : slots ≤ K) : own_Goes p.tables e below (T.setTop (mkF m pc Ls (.ref z :: rest))) (own_P s Q C K) := by
  obtain ⟨fs, hr, hrun, hended, hW, hsame⟩ := X.leave (v := some (.ref z)) (fun h => by rw [hret] at h; cases h) hk
  exact ⟨_, _, retOut X hx hret hn (Or.inr (Or.inr (Or.inr (Or.inr ⟨rfl, ht, rfl⟩)))) hd hr, hrun, hended, _, _, rfl, hQ, ⟨_, rfl⟩, hW, hsame.mono hc hs⟩
theorem own_flat (X : Stand p l e R s m args below meth c T (locs ++ []) (cells + 0) (slots + 0)) : Stand p l e R s m args below meth c T locs cells slots := List.append_nil locs ▸ X
end Own

theorem own_rem32 (x y : Int32) : (x - x / y * y).toInt = x.toInt.tmod y.toInt := by
  have a := (x % y).toInt_lt; have b := (x % y).le_toInt
  rw [Int32.toInt_mod] at a b
  rw [Int32.toInt_sub, Int32.toInt_mul, Int32.toInt_div, Int.bmod_mul_bmod, Int.sub_bmod_bmod, Int.mul_comm, ← Int.tmod_def]
  exact Jvm.Kit.bmod32 b a
theorem own_rem32n {x y : Int32} (hx : 0 ≤ x.toInt) : (x - x / y * y).toInt = x.toInt % y.toInt := by rw [own_rem32, Int.tmod_eq_emod_of_nonneg hx]
theorem own_m31 (x : Int32) : 0 ≤ (x &&& (2147483647 : Int32)).toInt ∧ (x &&& (2147483647 : Int32)).toInt < 2147483648 := by
  rw [Jvm.Kit.i32_mask x 2147483647 (k := 31) (by decide) (by decide)]
  omega
def own_St (Z : State) (h : Heap) (aN aS aU aB aA : Addr) : Prop := (Sta Z h "com/example/bede/bede/Expression$StaticType" "NODES" "Lcom/example/bede/bede/Expression$StaticType;" (.ref aN) ∧ Sta Z h "com/example/bede/bede/Expression$StaticType" "STRING" "Lcom/example/bede/bede/Expression$StaticType;" (.ref aS) ∧ Sta Z h "com/example/bede/bede/Expression$StaticType" "NUMERIC" "Lcom/example/bede/bede/Expression$StaticType;" (.ref aU) ∧ Sta Z h "com/example/bede/bede/Expression$StaticType" "BOOLEAN" "Lcom/example/bede/bede/Expression$StaticType;" (.ref aB) ∧ Sta Z h "com/example/bede/bede/Expression$StaticType" "ANY" "Lcom/example/bede/bede/Expression$StaticType;" (.ref aA) ∧ True) ∧ Exa Z h aN "com/example/bede/bede/Expression$StaticType" ∧ Exa Z h aS "com/example/bede/bede/Expression$StaticType" ∧ Exa Z h aU "com/example/bede/bede/Expression$StaticType" ∧ Exa Z h aB "com/example/bede/bede/Expression$StaticType" ∧ Exa Z h aA "com/example/bede/bede/Expression$StaticType"
theorem own_fo {args : Array Value} {Z : State} {t : Term} {a : Addr} {C n d : String} {k : Int32} (ev : t.eval args Z none [] Z = some (.ref a)) (h : (Jvm.Cond.eq (Term.field t C n d) (Term.int k)).value args Z none Z [] = some true) : Z.fieldOf? a C n d = some (.int k) := by
  have e := fld_at (C := C) (n := n) (dd := d) ev
  simp only [Cond.value] at h
  rw [e] at h
  cases hf : Z.fieldOf? a C n d with
  | none => rw [hf] at h; simp [Term.eval] at h
  | some v =>
    rw [hf] at h
    cases v <;> simp [Term.eval] at h
    rw [h]

theorem d1_0 : decode method_2_code 0 = .ok (.iload_n 0, 1) := by decide +kernel
theorem d1_1 : decode method_2_code 1 = .ok (.ifCond .ne 7, 3) := by decide +kernel
theorem d1_4 : decode method_2_code 4 = .ok (.getstatic 7, 3) := by decide +kernel
theorem d1_7 : decode method_2_code 7 = .ok (.areturn, 1) := by decide +kernel
theorem d1_8 : decode method_2_code 8 = .ok (.iload_n 0, 1) := by decide +kernel
theorem d1_9 : decode method_2_code 9 = .ok (.iconst 1, 1) := by decide +kernel
theorem d1_10 : decode method_2_code 10 = .ok (.if_icmp .ne 7, 3) := by decide +kernel
theorem d1_13 : decode method_2_code 13 = .ok (.getstatic 13, 3) := by decide +kernel
theorem d1_16 : decode method_2_code 16 = .ok (.areturn, 1) := by decide +kernel
theorem d1_17 : decode method_2_code 17 = .ok (.iload_n 0, 1) := by decide +kernel
theorem d1_18 : decode method_2_code 18 = .ok (.iconst 2, 1) := by decide +kernel
theorem d1_19 : decode method_2_code 19 = .ok (.if_icmp .ne 7, 3) := by decide +kernel
theorem d1_22 : decode method_2_code 22 = .ok (.getstatic 16, 3) := by decide +kernel
theorem d1_25 : decode method_2_code 25 = .ok (.areturn, 1) := by decide +kernel
theorem d1_26 : decode method_2_code 26 = .ok (.iload_n 0, 1) := by decide +kernel
theorem d1_27 : decode method_2_code 27 = .ok (.iconst 3, 1) := by decide +kernel
theorem d1_28 : decode method_2_code 28 = .ok (.if_icmp .ne 7, 3) := by decide +kernel
theorem d1_31 : decode method_2_code 31 = .ok (.getstatic 19, 3) := by decide +kernel
theorem d1_34 : decode method_2_code 34 = .ok (.areturn, 1) := by decide +kernel
theorem d1_35 : decode method_2_code 35 = .ok (.getstatic 22, 3) := by decide +kernel
theorem d1_38 : decode method_2_code 38 = .ok (.areturn, 1) := by decide +kernel
theorem pn_1 : plainName "com/example/bede/bede/StaticTypeIsAtomicPinLaw" = true := by first | (simp [plainName, overriddenIn]; done) | decide +kernel
theorem ef_1 (m : MethodId) (p0 : Int32) : entryFrame m #[(.int p0)] 1 = mkF m 0 #[.val (.int p0)] [] := by first | (simp [entryFrame, mkF, argsToLocals, Value.category]; done) | rfl
def own_f1 (p0 : Int32) (aN : Addr) (aS : Addr) (aU : Addr) (aB : Addr) (aA : Addr) : Addr :=
  if p0 = 0 then
    aN
  else
    if p0 = (1 : Int32) then
      aS
    else
      if p0 = (2 : Int32) then
        aU
      else
        if p0 = (3 : Int32) then
          aB
        else
          aA
abbrev own_room1 : Room := { frames := 0, cells := 0, slots := 0, locals := 0 }
set_option maxRecDepth 65536 in
set_option maxHeartbeats 40000000 in
theorem rm1 (l : Launch) (Z : State) (a0 : Array Value) (hw : ∀ d ∈ tables_1, d.before a0 Z = true) (ws : List Jvm.Cond) (p0 : Int32) (aN : Addr) (aS : Addr) (aU : Addr) (aB : Addr) (aA : Addr) (h0 : Heap) (n0 : Nat) (Z0 : n0 ≤ h0.size) (hG : own_St Z h0 aN aS aU aB aA) :
    MetFree l (⟨"com/example/bede/bede/StaticTypeIsAtomicPinLaw", "pick", "(I)Lcom/example/bede/bede/Expression$StaticType;"⟩ : MethodName) (head1 (Jvm.Cond.code (⟨"com/example/bede/bede/StaticTypeIsAtomicPinLaw", "pick", "(I)Lcom/example/bede/bede/Expression$StaticType;"⟩ : MethodName) method_2_code 1 (some (.object "com/example/bede/bede/Expression$StaticType")) :: ws) own_room1) (fun a U => a = #[(.int p0)] ∧ Z.Warmed39 U.vm ∧ U.heap = h0) (fun _ _ _ _ _ => True) (fun _ U o U' => ∃ v L, o = .returned v ∧ own_Qp (some (.ref (own_f1 p0 aN aS aU aB aA))) h0 v U'.heap L ∧ FrameEnd U o U' L own_room1.cells own_room1.slots) := by
  refine MetFree.of_bodySF (plainFor_of_name pn_1) hisR ?_
  intro p e s m args below meth c s₁ Bd hml0 hP hK
  obtain ⟨rfl, hZ, hh⟩ := hP
  have hx := Bd.exec
  have hby := Bd.bytes
  have hml : c.maxLocals = 1 := hml0
  have hown : s.vm.findClass "com/example/bede/bede/StaticTypeIsAtomicPinLaw" = some m.cls := findClass_of_methodNamed Bd.named
  have hnm := (name_of_methodNamed Bd.named Bd.method).1
  have X0 : Stand p l e own_room1 s m #[(.int p0)] below meth c s₁ [] 0 0 := Stand.of_body Bd
  have e0 : s₁.heap = h0 := by rw [← hh, Bd.state]; rfl
  have N0 := Fr.nil n0
  refine own_enter (ef_1 m p0) ?_
  show own_Goes p.tables e below (s₁.setTop (mkF m 0 #[.val (.int p0)] [])) (own_P s (own_Qp (some (.ref (own_f1 p0 aN aS aU aB aA))) h0) own_room1.cells own_room1.slots)
  refine own_step (fun _ => XS.iloadN X0.here hx rfl (hb hby d1_0) rfl) ?_
  show own_Goes p.tables e below (s₁.setTop (mkF m 1 #[.val (.int p0)] [(.int p0)])) _
  by_cases hc1 : p0 = 0
  · refine own_step (fun _ => XS.ifNo X0.here hx rfl (hb hby d1_1) rfl (Jvm.Free.XT.i0_ne_f hc1)) ?_
    show own_Goes p.tables e below (s₁.setTop (mkF m 4 #[.val (.int p0)] [])) _
    obtain ⟨T1, X1, e1, st1⟩ := getS2 X0 hx hZ hown (host := "") (Or.inl (hw _ (List.mem_of_getElem? (i := 5) rfl))) Via.refl e0 hG.1.1 (g := (mkF m 4 #[.val (.int p0)] [])) rfl (hb hby d1_4)
    refine own_step (st1) ?_
    show own_Goes p.tables e below (T1.setTop (mkF m 7 #[.val (.int p0)] [(.ref aN)])) _
    have hv : (own_f1 p0 aN aS aU aB aA) = aN := by exact (if_pos hc1)
    rw [hv]
    exact own_retA X1 hx Bd.returns (hb hby d1_7) (BodyLoose.notSynchronized Bd) rfl rfl ⟨rfl, rfl, e1⟩ (by decide) (by decide)
  · refine own_step (fun _ => XS.ifYes X0.here hx rfl (pc0 := 1) (pc' := 8) rfl (hb hby d1_1) rfl (Jvm.Free.XT.i0_ne_t hc1) (by decide) (by decide)) ?_
    show own_Goes p.tables e below (s₁.setTop (mkF m 8 #[.val (.int p0)] [])) _
    refine own_step (fun _ => XS.iloadN X0.here hx rfl (hb hby d1_8) rfl) ?_
    show own_Goes p.tables e below (s₁.setTop (mkF m 9 #[.val (.int p0)] [(.int p0)])) _
    refine own_step (fun _ => XS.iconst X0.here hx rfl (hb hby d1_9)) ?_
    show own_Goes p.tables e below (s₁.setTop (mkF m 10 #[.val (.int p0)] [(.int (1 : Int32)), (.int p0)])) _
    by_cases hc10 : p0 = (1 : Int32)
    · refine own_step (fun _ => XS.icmpNo X0.here hx rfl (hb hby d1_10) rfl (Jvm.Free.XT.ii_ne_f hc10)) ?_
      show own_Goes p.tables e below (s₁.setTop (mkF m 13 #[.val (.int p0)] [])) _
      obtain ⟨T2, X2, e2, st2⟩ := getS2 X0 hx hZ hown (host := "") (Or.inl (hw _ (List.mem_of_getElem? (i := 22) rfl))) Via.refl e0 hG.1.2.1 (g := (mkF m 13 #[.val (.int p0)] [])) rfl (hb hby d1_13)
      refine own_step (st2) ?_
      show own_Goes p.tables e below (T2.setTop (mkF m 16 #[.val (.int p0)] [(.ref aS)])) _
      have hv : (own_f1 p0 aN aS aU aB aA) = aS := by exact ((if_neg hc1)).trans (if_pos hc10)
      rw [hv]
      exact own_retA X2 hx Bd.returns (hb hby d1_16) (BodyLoose.notSynchronized Bd) rfl rfl ⟨rfl, rfl, e2⟩ (by decide) (by decide)
    · refine own_step (fun _ => XS.icmpYes X0.here hx rfl (pc0 := 10) (pc' := 17) rfl (hb hby d1_10) rfl (Jvm.Free.XT.ii_ne_t hc10) (by decide) (by decide)) ?_
      show own_Goes p.tables e below (s₁.setTop (mkF m 17 #[.val (.int p0)] [])) _
      refine own_step (fun _ => XS.iloadN X0.here hx rfl (hb hby d1_17) rfl) ?_
      show own_Goes p.tables e below (s₁.setTop (mkF m 18 #[.val (.int p0)] [(.int p0)])) _
      refine own_step (fun _ => XS.iconst X0.here hx rfl (hb hby d1_18)) ?_
      show own_Goes p.tables e below (s₁.setTop (mkF m 19 #[.val (.int p0)] [(.int (2 : Int32)), (.int p0)])) _
      by_cases hc19 : p0 = (2 : Int32)
      · refine own_step (fun _ => XS.icmpNo X0.here hx rfl (hb hby d1_19) rfl (Jvm.Free.XT.ii_ne_f hc19)) ?_
        show own_Goes p.tables e below (s₁.setTop (mkF m 22 #[.val (.int p0)] [])) _
        obtain ⟨T3, X3, e3, st3⟩ := getS2 X0 hx hZ hown (host := "") (Or.inl (hw _ (List.mem_of_getElem? (i := 23) rfl))) Via.refl e0 hG.1.2.2.1 (g := (mkF m 22 #[.val (.int p0)] [])) rfl (hb hby d1_22)
        refine own_step (st3) ?_
        show own_Goes p.tables e below (T3.setTop (mkF m 25 #[.val (.int p0)] [(.ref aU)])) _
        have hv : (own_f1 p0 aN aS aU aB aA) = aU := by exact (((if_neg hc1)).trans (if_neg hc10)).trans (if_pos hc19)
        rw [hv]
        exact own_retA X3 hx Bd.returns (hb hby d1_25) (BodyLoose.notSynchronized Bd) rfl rfl ⟨rfl, rfl, e3⟩ (by decide) (by decide)
      · refine own_step (fun _ => XS.icmpYes X0.here hx rfl (pc0 := 19) (pc' := 26) rfl (hb hby d1_19) rfl (Jvm.Free.XT.ii_ne_t hc19) (by decide) (by decide)) ?_
        show own_Goes p.tables e below (s₁.setTop (mkF m 26 #[.val (.int p0)] [])) _
        refine own_step (fun _ => XS.iloadN X0.here hx rfl (hb hby d1_26) rfl) ?_
        show own_Goes p.tables e below (s₁.setTop (mkF m 27 #[.val (.int p0)] [(.int p0)])) _
        refine own_step (fun _ => XS.iconst X0.here hx rfl (hb hby d1_27)) ?_
        show own_Goes p.tables e below (s₁.setTop (mkF m 28 #[.val (.int p0)] [(.int (3 : Int32)), (.int p0)])) _
        by_cases hc28 : p0 = (3 : Int32)
        · refine own_step (fun _ => XS.icmpNo X0.here hx rfl (hb hby d1_28) rfl (Jvm.Free.XT.ii_ne_f hc28)) ?_
          show own_Goes p.tables e below (s₁.setTop (mkF m 31 #[.val (.int p0)] [])) _
          obtain ⟨T4, X4, e4, st4⟩ := getS2 X0 hx hZ hown (host := "") (Or.inl (hw _ (List.mem_of_getElem? (i := 19) rfl))) Via.refl e0 hG.1.2.2.2.1 (g := (mkF m 31 #[.val (.int p0)] [])) rfl (hb hby d1_31)
          refine own_step (st4) ?_
          show own_Goes p.tables e below (T4.setTop (mkF m 34 #[.val (.int p0)] [(.ref aB)])) _
          have hv : (own_f1 p0 aN aS aU aB aA) = aB := by exact ((((if_neg hc1)).trans (if_neg hc10)).trans (if_neg hc19)).trans (if_pos hc28)
          rw [hv]
          exact own_retA X4 hx Bd.returns (hb hby d1_34) (BodyLoose.notSynchronized Bd) rfl rfl ⟨rfl, rfl, e4⟩ (by decide) (by decide)
        · refine own_step (fun _ => XS.icmpYes X0.here hx rfl (pc0 := 28) (pc' := 35) rfl (hb hby d1_28) rfl (Jvm.Free.XT.ii_ne_t hc28) (by decide) (by decide)) ?_
          show own_Goes p.tables e below (s₁.setTop (mkF m 35 #[.val (.int p0)] [])) _
          obtain ⟨T5, X5, e5, st5⟩ := getS2 X0 hx hZ hown (host := "") (Or.inl (hw _ (List.mem_of_getElem? (i := 20) rfl))) Via.refl e0 hG.1.2.2.2.2.1 (g := (mkF m 35 #[.val (.int p0)] [])) rfl (hb hby d1_35)
          refine own_step (st5) ?_
          show own_Goes p.tables e below (T5.setTop (mkF m 38 #[.val (.int p0)] [(.ref aA)])) _
          have hv : (own_f1 p0 aN aS aU aB aA) = aA := by exact ((((if_neg hc1)).trans (if_neg hc10)).trans (if_neg hc19)).trans (if_neg hc28)
          rw [hv]
          exact own_retA X5 hx Bd.returns (hb hby d1_38) (BodyLoose.notSynchronized Bd) rfl rfl ⟨rfl, rfl, e5⟩ (by decide) (by decide)
theorem own_exa {Z : State} {h : Heap} {aN aS aU aB aA : Addr} (k : Int32) (H : Exa Z h aN "com/example/bede/bede/Expression$StaticType" ∧ Exa Z h aS "com/example/bede/bede/Expression$StaticType" ∧ Exa Z h aU "com/example/bede/bede/Expression$StaticType" ∧ Exa Z h aB "com/example/bede/bede/Expression$StaticType" ∧ Exa Z h aA "com/example/bede/bede/Expression$StaticType") : Exa Z h (own_f1 k aN aS aU aB aA) "com/example/bede/bede/Expression$StaticType" := by
  obtain ⟨hN, hS, hU, hB, hA⟩ := H
  unfold own_f1
  by_cases h0 : k = 0
  · rw [if_pos h0]; exact hN
  · rw [if_neg h0]
    by_cases h1 : k = 1
    · rw [if_pos h1]; exact hS
    · rw [if_neg h1]
      by_cases h2 : k = 2
      · rw [if_pos h2]; exact hU
      · rw [if_neg h2]
        by_cases h3 : k = 3
        · rw [if_pos h3]; exact hB
        · rw [if_neg h3]; exact hA

theorem d2_0 : decode prog_22_method_4_code 0 = .ok (.aload_n 0, 1) := by decide +kernel
theorem d2_1 : decode prog_22_method_4_code 1 = .ok (.getstatic 7, 3) := by decide +kernel
theorem d2_4 : decode prog_22_method_4_code 4 = .ok (.if_acmp .eq 17, 3) := by decide +kernel
theorem d2_7 : decode prog_22_method_4_code 7 = .ok (.aload_n 0, 1) := by decide +kernel
theorem d2_8 : decode prog_22_method_4_code 8 = .ok (.getstatic 10, 3) := by decide +kernel
theorem d2_11 : decode prog_22_method_4_code 11 = .ok (.if_acmp .eq 10, 3) := by decide +kernel
theorem d2_14 : decode prog_22_method_4_code 14 = .ok (.aload_n 0, 1) := by decide +kernel
theorem d2_15 : decode prog_22_method_4_code 15 = .ok (.getstatic 13, 3) := by decide +kernel
theorem d2_18 : decode prog_22_method_4_code 18 = .ok (.if_acmp .ne 7, 3) := by decide +kernel
theorem d2_21 : decode prog_22_method_4_code 21 = .ok (.iconst 1, 1) := by decide +kernel
theorem d2_22 : decode prog_22_method_4_code 22 = .ok (.goto 4, 3) := by decide +kernel
theorem d2_25 : decode prog_22_method_4_code 25 = .ok (.iconst 0, 1) := by decide +kernel
theorem d2_26 : decode prog_22_method_4_code 26 = .ok (.ireturn, 1) := by decide +kernel
theorem pn_2 : plainName "com/example/bede/bede/Expression$StaticType" = true := by first | (simp [plainName, overriddenIn]; done) | decide +kernel
theorem ef_2 (m : MethodId) (r0 : Addr) : entryFrame m #[(.ref r0)] 1 = mkF m 0 #[.val (.ref r0)] [] := by first | (simp [entryFrame, mkF, argsToLocals, Value.category]; done) | rfl
def own_f2_21 : Int32 :=
  (1 : Int32)
def own_f2 (r0 : Addr) (aN : Addr) (aS : Addr) (aU : Addr) (aB : Addr) (aA : Addr) : Int32 :=
  if r0 = aS then
    (own_f2_21)
  else
    if r0 = aU then
      (own_f2_21)
    else
      if r0 = aB then
        (own_f2_21)
      else
        (0 : Int32)
abbrev own_room2 : Room := { frames := 0, cells := 0, slots := 0, locals := 0 }
set_option maxRecDepth 65536 in
set_option maxHeartbeats 40000000 in
theorem rm2 (l : Launch) (Z : State) (a0 : Array Value) (hw : ∀ d ∈ tables_1, d.before a0 Z = true) (ws : List Jvm.Cond) (r0 : Addr) (aN : Addr) (aS : Addr) (aU : Addr) (aB : Addr) (aA : Addr) (h0 : Heap) (n0 : Nat) (Z0 : n0 ≤ h0.size) (hG : own_St Z h0 aN aS aU aB aA) :
    MetFree l (⟨"com/example/bede/bede/Expression$StaticType", "isAtomic", "()Z"⟩ : MethodName) (head1 (Jvm.Cond.code (⟨"com/example/bede/bede/Expression$StaticType", "isAtomic", "()Z"⟩ : MethodName) prog_22_method_4_code 1 (some .boolean) :: ws) own_room2) (fun a U => a = #[(.ref r0)] ∧ Z.Warmed39 U.vm ∧ U.heap = h0) (fun _ _ _ _ _ => True) (fun _ U o U' => ∃ v L, o = .returned v ∧ own_Qp (some (.int (own_f2 r0 aN aS aU aB aA))) h0 v U'.heap L ∧ FrameEnd U o U' L own_room2.cells own_room2.slots) := by
  refine MetFree.of_bodySF (plainFor_of_name pn_2) hisR ?_
  intro p e s m args below meth c s₁ Bd hml0 hP hK
  obtain ⟨rfl, hZ, hh⟩ := hP
  have hx := Bd.exec
  have hby := Bd.bytes
  have hml : c.maxLocals = 1 := hml0
  have hown : s.vm.findClass "com/example/bede/bede/Expression$StaticType" = some m.cls := findClass_of_methodNamed Bd.named
  have hnm := (name_of_methodNamed Bd.named Bd.method).1
  have X0 : Stand p l e own_room2 s m #[(.ref r0)] below meth c s₁ [] 0 0 := Stand.of_body Bd
  have e0 : s₁.heap = h0 := by rw [← hh, Bd.state]; rfl
  have N0 := Fr.nil n0
  refine own_enter (ef_2 m r0) ?_
  show own_Goes p.tables e below (s₁.setTop (mkF m 0 #[.val (.ref r0)] [])) (own_P s (own_Qp (some (.int (own_f2 r0 aN aS aU aB aA))) h0) own_room2.cells own_room2.slots)
  refine own_step (fun _ => XS.aloadN X0.here hx rfl (hb hby d2_0) rfl rfl) ?_
  show own_Goes p.tables e below (s₁.setTop (mkF m 1 #[.val (.ref r0)] [(.ref r0)])) _
  obtain ⟨T1, X1, e1, st1⟩ := getS2 X0 hx hZ hown (host := "") (Or.inl (hw _ (List.mem_of_getElem? (i := 13) rfl))) Via.refl e0 hG.1.2.1 (g := (mkF m 1 #[.val (.ref r0)] [(.ref r0)])) rfl (hb hby d2_1)
  refine own_step (st1) ?_
  show own_Goes p.tables e below (T1.setTop (mkF m 4 #[.val (.ref r0)] [(.ref aS), (.ref r0)])) _
  have J21 : ∀ (T_21 : State) (X_21 : Stand p l e own_room2 s m #[(.ref r0)] below meth c T_21 [] 0 0) (e_21 : T_21.heap = h0), own_Goes p.tables e below (T_21.setTop (mkF m 21 #[.val (.ref r0)] [])) (own_P s (own_Qp (some (.int (own_f2_21))) h0) own_room2.cells own_room2.slots) := by
    intro T_21 X_21 e_21
    refine own_step (fun _ => XS.iconst X_21.here hx rfl (hb hby d2_21)) ?_
    show own_Goes p.tables e below (T_21.setTop (mkF m 22 #[.val (.ref r0)] [(.int (1 : Int32))])) _
    refine own_step (fun _ => XS.goto X_21.here hx rfl (pc0 := 22) (pc' := 26) rfl (hb hby d2_22) (by decide) (by decide)) ?_
    show own_Goes p.tables e below (T_21.setTop (mkF m 26 #[.val (.ref r0)] [(.int (1 : Int32))])) _
    have hv : (own_f2_21) = (1 : Int32) := by exact rfl
    rw [hv]
    exact own_retN X_21 hx (t := .boolean) Bd.returns (by simp) (hb hby d2_26) (BodyLoose.notSynchronized Bd) (w := (1 : Int32)) rfl ⟨rfl, rfl, e_21⟩ (by decide) (by decide)
  by_cases hc4 : r0 = aS
  · refine own_step (fun _ => Jvm.RoadKit.acmp (g := (mkF m 4 #[.val (.ref r0)] [(.ref aS), (.ref r0)])) X1 hx rfl rfl rfl (pc0 := 4) (pc' := 21) (same := true) rfl (hb hby d2_4) rfl (decide_eq_true (congrArg Value.ref hc4)) (by decide) (by decide)) ?_
    show own_Goes p.tables e below (T1.setTop (mkF m 21 #[.val (.ref r0)] [])) _
    have hv : (own_f2 r0 aN aS aU aB aA) = (own_f2_21) := by exact (if_pos hc4)
    rw [hv]
    exact J21 T1 X1 e1
  · refine own_step (fun _ => Jvm.RoadKit.acmp (g := (mkF m 4 #[.val (.ref r0)] [(.ref aS), (.ref r0)])) X1 hx rfl rfl rfl (pc0 := 4) (pc' := 7) (same := false) rfl (hb hby d2_4) rfl (decide_eq_false fun q => hc4 (Value.ref.inj q)) (by decide) (by decide)) ?_
    show own_Goes p.tables e below (T1.setTop (mkF m 7 #[.val (.ref r0)] [])) _
    refine own_step (fun _ => XS.aloadN X1.here hx rfl (hb hby d2_7) rfl rfl) ?_
    show own_Goes p.tables e below (T1.setTop (mkF m 8 #[.val (.ref r0)] [(.ref r0)])) _
    obtain ⟨T2, X2, e2, st2⟩ := getS2 X1 hx hZ hown (host := "") (Or.inl (hw _ (List.mem_of_getElem? (i := 15) rfl))) Via.refl e1 hG.1.2.2.1 (g := (mkF m 8 #[.val (.ref r0)] [(.ref r0)])) rfl (hb hby d2_8)
    refine own_step (st2) ?_
    show own_Goes p.tables e below (T2.setTop (mkF m 11 #[.val (.ref r0)] [(.ref aU), (.ref r0)])) _
    by_cases hc11 : r0 = aU
    · refine own_step (fun _ => Jvm.RoadKit.acmp (g := (mkF m 11 #[.val (.ref r0)] [(.ref aU), (.ref r0)])) X2 hx rfl rfl rfl (pc0 := 11) (pc' := 21) (same := true) rfl (hb hby d2_11) rfl (decide_eq_true (congrArg Value.ref hc11)) (by decide) (by decide)) ?_
      show own_Goes p.tables e below (T2.setTop (mkF m 21 #[.val (.ref r0)] [])) _
      have hv : (own_f2 r0 aN aS aU aB aA) = (own_f2_21) := by exact ((if_neg hc4)).trans (if_pos hc11)
      rw [hv]
      exact J21 T2 X2 e2
    · refine own_step (fun _ => Jvm.RoadKit.acmp (g := (mkF m 11 #[.val (.ref r0)] [(.ref aU), (.ref r0)])) X2 hx rfl rfl rfl (pc0 := 11) (pc' := 14) (same := false) rfl (hb hby d2_11) rfl (decide_eq_false fun q => hc11 (Value.ref.inj q)) (by decide) (by decide)) ?_
      show own_Goes p.tables e below (T2.setTop (mkF m 14 #[.val (.ref r0)] [])) _
      refine own_step (fun _ => XS.aloadN X2.here hx rfl (hb hby d2_14) rfl rfl) ?_
      show own_Goes p.tables e below (T2.setTop (mkF m 15 #[.val (.ref r0)] [(.ref r0)])) _
      obtain ⟨T3, X3, e3, st3⟩ := getS2 X2 hx hZ hown (host := "") (Or.inl (hw _ (List.mem_of_getElem? (i := 17) rfl))) Via.refl e2 hG.1.2.2.2.1 (g := (mkF m 15 #[.val (.ref r0)] [(.ref r0)])) rfl (hb hby d2_15)
      refine own_step (st3) ?_
      show own_Goes p.tables e below (T3.setTop (mkF m 18 #[.val (.ref r0)] [(.ref aB), (.ref r0)])) _
      by_cases hc18 : r0 = aB
      · refine own_step (fun _ => Jvm.RoadKit.acmp (g := (mkF m 18 #[.val (.ref r0)] [(.ref aB), (.ref r0)])) X3 hx rfl rfl rfl (pc0 := 18) (pc' := 21) (same := true) rfl (hb hby d2_18) rfl (decide_eq_true (congrArg Value.ref hc18)) (by decide) (by decide)) ?_
        show own_Goes p.tables e below (T3.setTop (mkF m 21 #[.val (.ref r0)] [])) _
        have hv : (own_f2 r0 aN aS aU aB aA) = (own_f2_21) := by exact (((if_neg hc4)).trans (if_neg hc11)).trans (if_pos hc18)
        rw [hv]
        exact J21 T3 X3 e3
      · refine own_step (fun _ => Jvm.RoadKit.acmp (g := (mkF m 18 #[.val (.ref r0)] [(.ref aB), (.ref r0)])) X3 hx rfl rfl rfl (pc0 := 18) (pc' := 25) (same := false) rfl (hb hby d2_18) rfl (decide_eq_false fun q => hc18 (Value.ref.inj q)) (by decide) (by decide)) ?_
        show own_Goes p.tables e below (T3.setTop (mkF m 25 #[.val (.ref r0)] [])) _
        refine own_step (fun _ => XS.iconst X3.here hx rfl (hb hby d2_25)) ?_
        show own_Goes p.tables e below (T3.setTop (mkF m 26 #[.val (.ref r0)] [(.int (0 : Int32))])) _
        have hv : (own_f2 r0 aN aS aU aB aA) = (0 : Int32) := by exact (((if_neg hc4)).trans (if_neg hc11)).trans (if_neg hc18)
        rw [hv]
        exact own_retN X3 hx (t := .boolean) Bd.returns (by simp) (hb hby d2_26) (BodyLoose.notSynchronized Bd) (w := (0 : Int32)) rfl ⟨rfl, rfl, e3⟩ (by decide) (by decide)
theorem pn_0 : plainName "com/example/bede/bede/StaticTypeIsAtomicPinLaw" = true := by first | (simp [plainName, overriddenIn]; done) | decide +kernel
theorem pd_0_0 : parseMethodDescriptor "(I)Lcom/example/bede/bede/Expression$StaticType;" = some ⟨[.int], some (.object "com/example/bede/bede/Expression$StaticType")⟩ := by decide +kernel
theorem pd_0_1 : parseMethodDescriptor "()Z" = some ⟨[], some .boolean⟩ := by decide +kernel
theorem ef_0 (m : MethodId) (p0 : Int32) : entryFrame m #[(.int p0)] maxLocals = mkF m 0 #[.val (.int p0), .unset, .unset, .unset] [] := by first | (simp [entryFrame, mkF, argsToLocals, Value.category, maxLocals]; done) | rfl
def own_f0_31 (aN : Addr) (aS : Addr) (aU : Addr) (aB : Addr) (aA : Addr) (z6 : Int32) (v31_t0 : Int32) : Int32 :=
  if (own_f2 (own_f1 z6 aN aS aU aB aA) aN aS aU aB aA) = v31_t0 then
    (1 : Int32)
  else
    (0 : Int32)
def own_f0_30 (aN : Addr) (aS : Addr) (aU : Addr) (aB : Addr) (aA : Addr) (z6 : Int32) : Int32 :=
  (own_f0_31 aN aS aU aB aA z6 (0 : Int32))
def own_f0 (p0 : Int32) (aN : Addr) (aS : Addr) (aU : Addr) (aB : Addr) (aA : Addr) : Int32 :=
  let z6 : Int32 := ((p0 &&& (2147483647 : Int32)) - (p0 &&& (2147483647 : Int32)) / (5 : Int32) * (5 : Int32))
  if (own_f1 z6 aN aS aU aB aA) = aN then
    (own_f0_30 aN aS aU aB aA z6)
  else
    if (own_f1 z6 aN aS aU aB aA) = aA then
      (own_f0_30 aN aS aU aB aA z6)
    else
      (own_f0_31 aN aS aU aB aA z6 (1 : Int32))
set_option maxRecDepth 65536 in
set_option maxHeartbeats 40000000 in
theorem rm0 (l : Launch) (Z : State) (a0 : Array Value) (hw : ∀ d ∈ tables_1, d.before a0 Z = true) (ws : List Jvm.Cond) (p0 : Int32) (aN : Addr) (aS : Addr) (aU : Addr) (aB : Addr) (aA : Addr) (h0 : Heap) (n0 : Nat) (Z0 : n0 ≤ h0.size) (hG : own_St Z h0 aN aS aU aB aA) :
    MetFree l x (head1 (Jvm.Cond.code x code maxLocals ret :: ws) room_1) (fun a U => a = #[(.int p0)] ∧ Z.Warmed39 U.vm ∧ U.heap = h0) (fun _ _ _ _ _ => True) (fun _ U o U' => ∃ v L, o = .returned v ∧ own_Ql (some (.int (own_f0 p0 aN aS aU aB aA))) n0 v U'.heap L ∧ FrameEnd U o U' L 0 0) := by
  refine MetFree.of_bodySF (plainFor_of_name pn_0) hisR ?_
  intro p e s m args below meth c s₁ Bd hml0 hP hK
  obtain ⟨rfl, hZ, hh⟩ := hP
  have hx := Bd.exec
  have hby := Bd.bytes
  have hml : c.maxLocals = 4 := hml0
  have hown : s.vm.findClass "com/example/bede/bede/StaticTypeIsAtomicPinLaw" = some m.cls := findClass_of_methodNamed Bd.named
  have hnm := (name_of_methodNamed Bd.named Bd.method).1
  have X0 : Stand p l e room_1 s m #[(.int p0)] below meth c s₁ [] 0 0 := Stand.of_body Bd
  have e0 : s₁.heap = h0 := by rw [← hh, Bd.state]; rfl
  have N0 := Fr.nil n0
  refine own_enter (ef_0 m p0) ?_
  show own_Goes p.tables e below (s₁.setTop (mkF m 0 #[.val (.int p0), .unset, .unset, .unset] [])) (own_P s (own_Ql (some (.int (own_f0 p0 aN aS aU aB aA))) n0) 0 0)
  refine own_step (fun _ => XS.iloadN X0.here hx rfl (hb hby at_0) rfl) ?_
  show own_Goes p.tables e below (s₁.setTop (mkF m 1 #[.val (.int p0), .unset, .unset, .unset] [(.int p0)])) _
  refine own_step (X0.ldcInt hx hown (mvT hZ (hw _ (List.mem_of_getElem? (i := 0) rfl))) (g := (mkF m 1 #[.val (.int p0), .unset, .unset, .unset] [(.int p0)])) rfl (hb hby at_1)) ?_
  show own_Goes p.tables e below (s₁.setTop (mkF m 3 #[.val (.int p0), .unset, .unset, .unset] [(.int (2147483647 : Int32)), (.int p0)])) _
  refine own_step (fun _ => XS.iand X0.here hx rfl (hb hby at_3) rfl) ?_
  show own_Goes p.tables e below (s₁.setTop (mkF m 4 #[.val (.int p0), .unset, .unset, .unset] [(.int (p0 &&& (2147483647 : Int32)))])) _
  refine own_step (fun _ => XS.iconst X0.here hx rfl (hb hby at_4)) ?_
  show own_Goes p.tables e below (s₁.setTop (mkF m 5 #[.val (.int p0), .unset, .unset, .unset] [(.int (5 : Int32)), (.int (p0 &&& (2147483647 : Int32)))])) _
  refine own_step (fun _ => XS.irem X0.here hx rfl (hb hby at_5) rfl (by decide)) ?_
  show own_Goes p.tables e below (s₁.setTop (mkF m 6 #[.val (.int p0), .unset, .unset, .unset] [(.int ((p0 &&& (2147483647 : Int32)) - (p0 &&& (2147483647 : Int32)) / (5 : Int32) * (5 : Int32)))])) _
  obtain ⟨z6, hz6⟩ : ∃ z : Int32, z = ((p0 &&& (2147483647 : Int32)) - (p0 &&& (2147483647 : Int32)) / (5 : Int32) * (5 : Int32)) := ⟨_, rfl⟩
  refine own_step (fun _ => XS.istoreN X0.here hx rfl (hb hby at_6) rfl (l' := #[.val (.int p0), .val (.int z6), .unset, .unset]) (by subst hz6; rfl)) ?_
  show own_Goes p.tables e below (s₁.setTop (mkF m 7 #[.val (.int p0), .val (.int z6), .unset, .unset] [])) _
  refine own_step (fun _ => XS.iloadN X0.here hx rfl (hb hby at_7) rfl) ?_
  show own_Goes p.tables e below (s₁.setTop (mkF m 8 #[.val (.int p0), .val (.int z6), .unset, .unset] [(.int z6)])) _
  obtain ⟨_, _, ⟨T1, L1, k1, n1⟩, -, X1, ⟨Lc1, hQ1, l1, y1, z1⟩, st1⟩ := Jvm.LawKit.callS X0 hx (y := (⟨"com/example/bede/bede/StaticTypeIsAtomicPinLaw", "pick", "(I)Lcom/example/bede/bede/Expression$StaticType;"⟩ : MethodName)) hown (mvT hZ (hw _ (List.mem_of_getElem? (i := 1) rfl))) (mvT hZ (hw _ (List.mem_of_getElem? (i := 2) rfl))) (mvT hZ (hw _ (List.mem_of_getElem? (i := 3) rfl))) (mvT hZ (hw _ (List.mem_of_getElem? (i := 4) rfl))) (by decide) (backOf (W := 0) (rm1 l Z a0 hw [] z6 aN aS aU aB aA h0 n0 Z0 hG) hZ (hw _ (List.mem_of_getElem? (i := 4) rfl)) (hw _ (List.mem_of_getElem? (i := 3) rfl)) (by decide) (by decide)) (g := (mkF m 8 #[.val (.int p0), .val (.int z6), .unset, .unset] [(.int z6)])) rfl (by rw [hml]; rfl) (argsL := [(.int z6)]) (rest := []) (lenOf pd_0_0 rfl) rfl (by show 2 * 0 + _ ≤ _; exact Nat.le_of_eq rfl) (hb hby at_8) (fun _ _ => ⟨rfl, e0, (by decide : 0 + 0 ≤ _), (by decide : 0 + 0 ≤ _)⟩)
  dsimp only [Pt.U, Pt.locs, Pt.cells, Pt.slots] at X1 l1 y1 z1 st1 hQ1
  subst l1 y1 z1
  obtain ⟨rfl, rfl, e1⟩ := hQ1
  have X1 : Stand p l e room_1 s m #[(.int p0)] below meth c T1 [] 0 0 := own_flat X1
  refine own_step (st1) ?_
  show own_Goes p.tables e below (T1.setTop (mkF m 11 #[.val (.int p0), .val (.int z6), .unset, .unset] [(.ref (own_f1 z6 aN aS aU aB aA))])) _
  refine own_step (fun _ => XS.astoreN X1.here hx rfl (hb hby at_11) rfl rfl (l' := #[.val (.int p0), .val (.int z6), .val (.ref (own_f1 z6 aN aS aU aB aA)), .unset]) rfl) ?_
  show own_Goes p.tables e below (T1.setTop (mkF m 12 #[.val (.int p0), .val (.int z6), .val (.ref (own_f1 z6 aN aS aU aB aA)), .unset] [])) _
  refine own_step (fun _ => XS.aloadN X1.here hx rfl (hb hby at_12) rfl rfl) ?_
  show own_Goes p.tables e below (T1.setTop (mkF m 13 #[.val (.int p0), .val (.int z6), .val (.ref (own_f1 z6 aN aS aU aB aA)), .unset] [(.ref (own_f1 z6 aN aS aU aB aA))])) _
  obtain ⟨T2, X2, e2, st2⟩ := getS2 X1 hx hZ hown (host := "") (Or.inl (hw _ (List.mem_of_getElem? (i := 5) rfl))) Via.refl e1 hG.1.1 (g := (mkF m 13 #[.val (.int p0), .val (.int z6), .val (.ref (own_f1 z6 aN aS aU aB aA)), .unset] [(.ref (own_f1 z6 aN aS aU aB aA))])) rfl (hb hby at_13)
  refine own_step (st2) ?_
  show own_Goes p.tables e below (T2.setTop (mkF m 16 #[.val (.int p0), .val (.int z6), .val (.ref (own_f1 z6 aN aS aU aB aA)), .unset] [(.ref aN), (.ref (own_f1 z6 aN aS aU aB aA))])) _
  have J31 : ∀ (T_31 : State) (X_31 : Stand p l e room_1 s m #[(.int p0)] below meth c T_31 [] 0 0) (e_31 : T_31.heap = h0) (v31_t0 : Int32), own_Goes p.tables e below (T_31.setTop (mkF m 31 #[.val (.int p0), .val (.int z6), .val (.ref (own_f1 z6 aN aS aU aB aA)), .unset] [(.int v31_t0)])) (own_P s (own_Ql (some (.int (own_f0_31 aN aS aU aB aA z6 v31_t0))) n0) 0 0) := by
    intro T_31 X_31 e_31 v31_t0
    refine own_step (fun _ => XS.istoreN X_31.here hx rfl (hb hby at_31) rfl (l' := #[.val (.int p0), .val (.int z6), .val (.ref (own_f1 z6 aN aS aU aB aA)), .val (.int v31_t0)]) rfl) ?_
    show own_Goes p.tables e below (T_31.setTop (mkF m 32 #[.val (.int p0), .val (.int z6), .val (.ref (own_f1 z6 aN aS aU aB aA)), .val (.int v31_t0)] [])) _
    refine own_step (fun _ => XS.aloadN X_31.here hx rfl (hb hby at_32) rfl rfl) ?_
    show own_Goes p.tables e below (T_31.setTop (mkF m 33 #[.val (.int p0), .val (.int z6), .val (.ref (own_f1 z6 aN aS aU aB aA)), .val (.int v31_t0)] [(.ref (own_f1 z6 aN aS aU aB aA))])) _
    obtain ⟨cq3, kq3, q3a, q3b, q3c⟩ := isOf hZ e_31 (own_exa z6 hG.2)
    obtain ⟨_, _, ⟨T3, L3, k3, n3⟩, -, X3, ⟨Lc3, hQ3, l3, y3, z3⟩, st3⟩ := X_31.virtualBack hx (y := (⟨"com/example/bede/bede/Expression$StaticType", "isAtomic", "()Z"⟩ : MethodName)) (z := (⟨"com/example/bede/bede/Expression$StaticType", "isAtomic", "()Z"⟩ : MethodName)) hown (mvT hZ (hw _ (List.mem_of_getElem? (i := 8) rfl))) (mvT hZ (hw _ (List.mem_of_getElem? (i := 9) rfl))) (notFace_of_selects (args := #[]) (mvT hZ (hw _ (List.mem_of_getElem? (i := 11) rfl)))) (mvT hZ (hw _ (List.mem_of_getElem? (i := 11) rfl))) (mvT hZ (hw _ (List.mem_of_getElem? (i := 10) rfl))) (by decide) (backOf (W := 0) (rm2 l Z a0 hw [] (own_f1 z6 aN aS aU aB aA) aN aS aU aB aA h0 n0 Z0 hG) hZ (hw _ (List.mem_of_getElem? (i := 12) rfl)) (hw _ (List.mem_of_getElem? (i := 6) rfl)) (by decide) (by decide)) q3a q3c (g := (mkF m 33 #[.val (.int p0), .val (.int z6), .val (.ref (own_f1 z6 aN aS aU aB aA)), .val (.int v31_t0)] [(.ref (own_f1 z6 aN aS aU aB aA))])) rfl (by rw [hml]; rfl) (Steps.refl _) (argsL := []) (rest := []) (lenOf pd_0_1 rfl) rfl (by show 2 * 0 + _ ≤ _; exact Nat.le_of_eq rfl) (hb hby at_33) (fun _ _ => ⟨rfl, e_31, (by decide : 0 + 0 ≤ _), (by decide : 0 + 0 ≤ _)⟩)
    dsimp only [Pt.U, Pt.locs, Pt.cells, Pt.slots] at X3 l3 y3 z3 st3 hQ3
    subst l3 y3 z3
    obtain ⟨rfl, rfl, e3⟩ := hQ3
    have X3 : Stand p l e room_1 s m #[(.int p0)] below meth c T3 [] 0 0 := own_flat X3
    refine own_step (fun _ k => st3.trans k) ?_
    show own_Goes p.tables e below (T3.setTop (mkF m 36 #[.val (.int p0), .val (.int z6), .val (.ref (own_f1 z6 aN aS aU aB aA)), .val (.int v31_t0)] [(.int (own_f2 (own_f1 z6 aN aS aU aB aA) aN aS aU aB aA))])) _
    refine own_step (fun _ => XS.iloadN X3.here hx rfl (hb hby at_36) rfl) ?_
    show own_Goes p.tables e below (T3.setTop (mkF m 37 #[.val (.int p0), .val (.int z6), .val (.ref (own_f1 z6 aN aS aU aB aA)), .val (.int v31_t0)] [(.int v31_t0), (.int (own_f2 (own_f1 z6 aN aS aU aB aA) aN aS aU aB aA))])) _
    by_cases hc37 : (own_f2 (own_f1 z6 aN aS aU aB aA) aN aS aU aB aA) = v31_t0
    · refine own_step (fun _ => XS.icmpNo X3.here hx rfl (hb hby at_37) rfl (Jvm.Free.XT.ii_ne_f hc37)) ?_
      show own_Goes p.tables e below (T3.setTop (mkF m 40 #[.val (.int p0), .val (.int z6), .val (.ref (own_f1 z6 aN aS aU aB aA)), .val (.int v31_t0)] [])) _
      refine own_step (fun _ => XS.iconst X3.here hx rfl (hb hby at_40)) ?_
      show own_Goes p.tables e below (T3.setTop (mkF m 41 #[.val (.int p0), .val (.int z6), .val (.ref (own_f1 z6 aN aS aU aB aA)), .val (.int v31_t0)] [(.int (1 : Int32))])) _
      refine own_step (fun _ => XS.goto X3.here hx rfl (pc0 := 41) (pc' := 45) rfl (hb hby at_41) (by decide) (by decide)) ?_
      show own_Goes p.tables e below (T3.setTop (mkF m 45 #[.val (.int p0), .val (.int z6), .val (.ref (own_f1 z6 aN aS aU aB aA)), .val (.int v31_t0)] [(.int (1 : Int32))])) _
      have hv : (own_f0_31 aN aS aU aB aA z6 v31_t0) = (1 : Int32) := by exact (if_pos hc37)
      rw [hv]
      exact own_retN X3 hx (t := .boolean) Bd.returns (by simp) (hb hby at_45) (BodyLoose.notSynchronized Bd) (w := (1 : Int32)) rfl ⟨rfl, N0⟩ (by decide) (by decide)
    · refine own_step (fun _ => XS.icmpYes X3.here hx rfl (pc0 := 37) (pc' := 44) rfl (hb hby at_37) rfl (Jvm.Free.XT.ii_ne_t hc37) (by decide) (by decide)) ?_
      show own_Goes p.tables e below (T3.setTop (mkF m 44 #[.val (.int p0), .val (.int z6), .val (.ref (own_f1 z6 aN aS aU aB aA)), .val (.int v31_t0)] [])) _
      refine own_step (fun _ => XS.iconst X3.here hx rfl (hb hby at_44)) ?_
      show own_Goes p.tables e below (T3.setTop (mkF m 45 #[.val (.int p0), .val (.int z6), .val (.ref (own_f1 z6 aN aS aU aB aA)), .val (.int v31_t0)] [(.int (0 : Int32))])) _
      have hv : (own_f0_31 aN aS aU aB aA z6 v31_t0) = (0 : Int32) := by exact (if_neg hc37)
      rw [hv]
      exact own_retN X3 hx (t := .boolean) Bd.returns (by simp) (hb hby at_45) (BodyLoose.notSynchronized Bd) (w := (0 : Int32)) rfl ⟨rfl, N0⟩ (by decide) (by decide)
  have J30 : ∀ (T_30 : State) (X_30 : Stand p l e room_1 s m #[(.int p0)] below meth c T_30 [] 0 0) (e_30 : T_30.heap = h0), own_Goes p.tables e below (T_30.setTop (mkF m 30 #[.val (.int p0), .val (.int z6), .val (.ref (own_f1 z6 aN aS aU aB aA)), .unset] [])) (own_P s (own_Ql (some (.int (own_f0_30 aN aS aU aB aA z6))) n0) 0 0) := by
    intro T_30 X_30 e_30
    refine own_step (fun _ => XS.iconst X_30.here hx rfl (hb hby at_30)) ?_
    show own_Goes p.tables e below (T_30.setTop (mkF m 31 #[.val (.int p0), .val (.int z6), .val (.ref (own_f1 z6 aN aS aU aB aA)), .unset] [(.int (0 : Int32))])) _
    have hv : (own_f0_30 aN aS aU aB aA z6) = (own_f0_31 aN aS aU aB aA z6 (0 : Int32)) := by exact rfl
    rw [hv]
    exact J31 T_30 X_30 e_30 (0 : Int32)
  by_cases hc16 : (own_f1 z6 aN aS aU aB aA) = aN
  · refine own_step (fun _ => Jvm.RoadKit.acmp (g := (mkF m 16 #[.val (.int p0), .val (.int z6), .val (.ref (own_f1 z6 aN aS aU aB aA)), .unset] [(.ref aN), (.ref (own_f1 z6 aN aS aU aB aA))])) X2 hx rfl rfl rfl (pc0 := 16) (pc' := 30) (same := true) rfl (hb hby at_16) rfl (decide_eq_true (congrArg Value.ref hc16)) (by decide) (by decide)) ?_
    show own_Goes p.tables e below (T2.setTop (mkF m 30 #[.val (.int p0), .val (.int z6), .val (.ref (own_f1 z6 aN aS aU aB aA)), .unset] [])) _
    have hv : (own_f0 p0 aN aS aU aB aA) = (own_f0_30 aN aS aU aB aA z6) := by subst hz6; exact (if_pos hc16)
    rw [hv]
    exact J30 T2 X2 e2
  · refine own_step (fun _ => Jvm.RoadKit.acmp (g := (mkF m 16 #[.val (.int p0), .val (.int z6), .val (.ref (own_f1 z6 aN aS aU aB aA)), .unset] [(.ref aN), (.ref (own_f1 z6 aN aS aU aB aA))])) X2 hx rfl rfl rfl (pc0 := 16) (pc' := 19) (same := false) rfl (hb hby at_16) rfl (decide_eq_false fun q => hc16 (Value.ref.inj q)) (by decide) (by decide)) ?_
    show own_Goes p.tables e below (T2.setTop (mkF m 19 #[.val (.int p0), .val (.int z6), .val (.ref (own_f1 z6 aN aS aU aB aA)), .unset] [])) _
    refine own_step (fun _ => XS.aloadN X2.here hx rfl (hb hby at_19) rfl rfl) ?_
    show own_Goes p.tables e below (T2.setTop (mkF m 20 #[.val (.int p0), .val (.int z6), .val (.ref (own_f1 z6 aN aS aU aB aA)), .unset] [(.ref (own_f1 z6 aN aS aU aB aA))])) _
    obtain ⟨T4, X4, e4, st4⟩ := getS2 X2 hx hZ hown (host := "") (Or.inl (hw _ (List.mem_of_getElem? (i := 20) rfl))) Via.refl e2 hG.1.2.2.2.2.1 (g := (mkF m 20 #[.val (.int p0), .val (.int z6), .val (.ref (own_f1 z6 aN aS aU aB aA)), .unset] [(.ref (own_f1 z6 aN aS aU aB aA))])) rfl (hb hby at_20)
    refine own_step (st4) ?_
    show own_Goes p.tables e below (T4.setTop (mkF m 23 #[.val (.int p0), .val (.int z6), .val (.ref (own_f1 z6 aN aS aU aB aA)), .unset] [(.ref aA), (.ref (own_f1 z6 aN aS aU aB aA))])) _
    by_cases hc23 : (own_f1 z6 aN aS aU aB aA) = aA
    · refine own_step (fun _ => Jvm.RoadKit.acmp (g := (mkF m 23 #[.val (.int p0), .val (.int z6), .val (.ref (own_f1 z6 aN aS aU aB aA)), .unset] [(.ref aA), (.ref (own_f1 z6 aN aS aU aB aA))])) X4 hx rfl rfl rfl (pc0 := 23) (pc' := 30) (same := true) rfl (hb hby at_23) rfl (decide_eq_true (congrArg Value.ref hc23)) (by decide) (by decide)) ?_
      show own_Goes p.tables e below (T4.setTop (mkF m 30 #[.val (.int p0), .val (.int z6), .val (.ref (own_f1 z6 aN aS aU aB aA)), .unset] [])) _
      have hv : (own_f0 p0 aN aS aU aB aA) = (own_f0_30 aN aS aU aB aA z6) := by subst hz6; exact ((if_neg hc16)).trans (if_pos hc23)
      rw [hv]
      exact J30 T4 X4 e4
    · refine own_step (fun _ => Jvm.RoadKit.acmp (g := (mkF m 23 #[.val (.int p0), .val (.int z6), .val (.ref (own_f1 z6 aN aS aU aB aA)), .unset] [(.ref aA), (.ref (own_f1 z6 aN aS aU aB aA))])) X4 hx rfl rfl rfl (pc0 := 23) (pc' := 26) (same := false) rfl (hb hby at_23) rfl (decide_eq_false fun q => hc23 (Value.ref.inj q)) (by decide) (by decide)) ?_
      show own_Goes p.tables e below (T4.setTop (mkF m 26 #[.val (.int p0), .val (.int z6), .val (.ref (own_f1 z6 aN aS aU aB aA)), .unset] [])) _
      refine own_step (fun _ => XS.iconst X4.here hx rfl (hb hby at_26)) ?_
      show own_Goes p.tables e below (T4.setTop (mkF m 27 #[.val (.int p0), .val (.int z6), .val (.ref (own_f1 z6 aN aS aU aB aA)), .unset] [(.int (1 : Int32))])) _
      refine own_step (fun _ => XS.goto X4.here hx rfl (pc0 := 27) (pc' := 31) rfl (hb hby at_27) (by decide) (by decide)) ?_
      show own_Goes p.tables e below (T4.setTop (mkF m 31 #[.val (.int p0), .val (.int z6), .val (.ref (own_f1 z6 aN aS aU aB aA)), .unset] [(.int (1 : Int32))])) _
      have hv : (own_f0 p0 aN aS aU aB aA) = (own_f0_31 aN aS aU aB aA z6 (1 : Int32)) := by subst hz6; exact ((if_neg hc16)).trans (if_neg hc23)
      rw [hv]
      exact J31 T4 X4 e4 (1 : Int32)
theorem own_mem (k : Int32) (aN aS aU aB aA : Addr) : own_f1 k aN aS aU aB aA = aN ∨ own_f1 k aN aS aU aB aA = aS ∨ own_f1 k aN aS aU aB aA = aU ∨ own_f1 k aN aS aU aB aA = aB ∨ own_f1 k aN aS aU aB aA = aA := by
  unfold own_f1
  by_cases h0 : k = 0
  · exact Or.inl (if_pos h0)
  · by_cases h1 : k = 1
    · exact Or.inr (Or.inl ((if_neg h0).trans (if_pos h1)))
    · by_cases h2 : k = 2
      · exact Or.inr (Or.inr (Or.inl ((if_neg h0).trans ((if_neg h1).trans (if_pos h2)))))
      · by_cases h3 : k = 3
        · exact Or.inr (Or.inr (Or.inr (Or.inl ((if_neg h0).trans ((if_neg h1).trans ((if_neg h2).trans (if_pos h3)))))))
        · exact Or.inr (Or.inr (Or.inr (Or.inr ((if_neg h0).trans ((if_neg h1).trans ((if_neg h2).trans (if_neg h3)))))))
theorem own_law (p0 : Int32) (aN aS aU aB aA : Addr) (naNaS : ¬ aN = aS) (naNaU : ¬ aN = aU) (naNaB : ¬ aN = aB) (naNaA : ¬ aN = aA) (naSaU : ¬ aS = aU) (naSaB : ¬ aS = aB) (naSaA : ¬ aS = aA) (naUaB : ¬ aU = aB) (naUaA : ¬ aU = aA) (naBaA : ¬ aB = aA) : own_f0 p0 aN aS aU aB aA = 1 := by
  have naSaN : ¬ aS = aN := fun q => naNaS q.symm
  have naUaN : ¬ aU = aN := fun q => naNaU q.symm
  have naBaN : ¬ aB = aN := fun q => naNaB q.symm
  have naAaN : ¬ aA = aN := fun q => naNaA q.symm
  have naUaS : ¬ aU = aS := fun q => naSaU q.symm
  have naBaS : ¬ aB = aS := fun q => naSaB q.symm
  have naAaS : ¬ aA = aS := fun q => naSaA q.symm
  have naBaU : ¬ aB = aU := fun q => naUaB q.symm
  have naAaU : ¬ aA = aU := fun q => naUaA q.symm
  have naAaB : ¬ aA = aB := fun q => naBaA q.symm
  have k0 : ¬ (1 : Int32) = 0 := by decide
  have k1 : ¬ (0 : Int32) = 1 := by decide
  rcases own_mem ((p0 &&& (2147483647 : Int32)) - (p0 &&& (2147483647 : Int32)) / (5 : Int32) * (5 : Int32)) aN aS aU aB aA with e | e | e | e | e <;> simp only [own_f0, own_f0_30, own_f0_31, e, own_f2, own_f2_21, naNaS, naSaN, naNaU, naUaN, naNaB, naBaN, naNaA, naAaN, naSaU, naUaS, naSaB, naBaS, naSaA, naAaS, naUaB, naBaU, naUaA, naAaU, naBaA, naAaB, k0, k1, ↓reduceIte]
set_option maxRecDepth 65536 in
set_option maxHeartbeats 40000000 in
theorem comes_1 {Post : Tables → Env → Array Value → State → Outcome → State → Prop} (hpost : ∀ tb e args s v u, (limb_1_1.after args s (.returned v) u = true ∧ limb_1_2.after args s (.returned v) u = true ∧ True) → FrameEnd s (.returned v) u (Jvm.fieldLocs frame_1_writes args s ++ Jvm.arrayLocs frame_1_arrays args s ++ Jvm.staticLocs frame_1_statics s) 0 0 → Post tb e args s (.returned v) u) :
    ArmFor flags0 classFile x code maxLocals ret World_1 tables_1 room_1 Calls_1 rest_1 Pre_1 Post := by
  intro l hfl _ _ p e ha hc hk s m args below hf hA hF happ hP
  obtain ⟨hcalls, hrest, hpre⟩ := hP
  obtain ⟨-, -, -, hnamed, -, -, -, hat⟩ := (Spec.applies_iff hf).mp happ
  obtain ⟨hg, hn⟩ := and_e (Cond.before_iff.mp (show (Jvm.Cond.and given_1 narrow_1).before args s = true from hpre))
  obtain ⟨g1, g2⟩ := and_e hg
  obtain ⟨w0, rfl⟩ : ∃ w0 : Value, args = #[w0] := by
    have hs : args.size = 1 := by simpa [Cond.value, given_1] using g1
    obtain ⟨L⟩ := args
    match L, hs with
    | [w0], _ => exact ⟨w0, rfl⟩
  have hw := fun d (hd : d ∈ tables_1) => atoms_spec (ws := Jvm.Cond.code x code maxLocals ret :: tables_1) hat d (List.mem_cons_of_mem _ hd)
  obtain ⟨m0, hn⟩ := and_e hn
  obtain ⟨m1, hn⟩ := and_e hn
  obtain ⟨m2, hn⟩ := and_e hn
  obtain ⟨m3, hn⟩ := and_e hn
  obtain ⟨m4, hn⟩ := and_e hn
  obtain ⟨m5, hn⟩ := and_e hn
  obtain ⟨m6, hn⟩ := and_e hn
  obtain ⟨m7, hn⟩ := and_e hn
  obtain ⟨m8, hn⟩ := and_e hn
  have m9 := hn
  obtain ⟨aN, vaN⟩ := exa_v m0
  obtain ⟨aS, vaS⟩ := exa_v m1
  obtain ⟨aU, vaU⟩ := exa_v m4
  obtain ⟨aB, vaB⟩ := exa_v m6
  obtain ⟨aA, vaA⟩ := exa_v m8
  have oaN := own_fo vaN m2
  have oaS := own_fo vaS m3
  have oaU := own_fo vaU m5
  have oaB := own_fo vaB m7
  have oaA := own_fo vaA m9
  have hG : own_St s s.heap aN aS aU aB aA := ⟨⟨Sta.start vaN (Or.inr ⟨(hw _ (List.mem_of_getElem? (i := 6) rfl)), (hw _ (List.mem_of_getElem? (i := 7) rfl))⟩), Sta.start vaS (Or.inr ⟨(hw _ (List.mem_of_getElem? (i := 6) rfl)), (hw _ (List.mem_of_getElem? (i := 14) rfl))⟩), Sta.start vaU (Or.inr ⟨(hw _ (List.mem_of_getElem? (i := 6) rfl)), (hw _ (List.mem_of_getElem? (i := 16) rfl))⟩), Sta.start vaB (Or.inr ⟨(hw _ (List.mem_of_getElem? (i := 6) rfl)), (hw _ (List.mem_of_getElem? (i := 18) rfl))⟩), Sta.start vaA (Or.inr ⟨(hw _ (List.mem_of_getElem? (i := 6) rfl)), (hw _ (List.mem_of_getElem? (i := 21) rfl))⟩), trivial⟩, Exa.start vaN m0, Exa.start vaS m1, Exa.start vaU m4, Exa.start vaB m6, Exa.start vaA m8⟩
  have naNaS : ¬ aN = aS := fun q => by rw [q, oaS] at oaN; exact absurd (Value.int.inj (Option.some.inj oaN)) (by decide)
  have naNaU : ¬ aN = aU := fun q => by rw [q, oaU] at oaN; exact absurd (Value.int.inj (Option.some.inj oaN)) (by decide)
  have naNaB : ¬ aN = aB := fun q => by rw [q, oaB] at oaN; exact absurd (Value.int.inj (Option.some.inj oaN)) (by decide)
  have naNaA : ¬ aN = aA := fun q => by rw [q, oaA] at oaN; exact absurd (Value.int.inj (Option.some.inj oaN)) (by decide)
  have naSaU : ¬ aS = aU := fun q => by rw [q, oaU] at oaS; exact absurd (Value.int.inj (Option.some.inj oaS)) (by decide)
  have naSaB : ¬ aS = aB := fun q => by rw [q, oaB] at oaS; exact absurd (Value.int.inj (Option.some.inj oaS)) (by decide)
  have naSaA : ¬ aS = aA := fun q => by rw [q, oaA] at oaS; exact absurd (Value.int.inj (Option.some.inj oaS)) (by decide)
  have naUaB : ¬ aU = aB := fun q => by rw [q, oaB] at oaU; exact absurd (Value.int.inj (Option.some.inj oaU)) (by decide)
  have naUaA : ¬ aU = aA := fun q => by rw [q, oaA] at oaU; exact absurd (Value.int.inj (Option.some.inj oaU)) (by decide)
  have naBaA : ¬ aB = aA := fun q => by rw [q, oaA] at oaB; exact absurd (Value.int.inj (Option.some.inj oaB)) (by decide)
  obtain ⟨i0, ei0⟩ := is_v g2
  obtain rfl : w0 = (.int i0) := Option.some.inj ei0
  have hrm := rm0 l s _ hw tables_1 i0 aN aS aU aB aA s.heap s.heap.size (Nat.le_refl _) hG
  rw [own_law i0 aN aS aU aB aA naNaS naNaU naNaB naNaA naSaU naSaB naSaA naUaB naUaA naBaA] at hrm
  obtain ⟨n, o, h1, h2, h3, _, L, rfl, ⟨rfl, N⟩, hq⟩ := hrm p e ha hc hk s m _ below hf ((Spec.applies_iff_loose hf).mp happ).1 ⟨rfl, State.Warmed39.refl s, rfl⟩ trivial
  refine ⟨n, _, h1, h2, h3, hpost _ _ _ _ _ _ ⟨Cond.after_iff.mpr rfl, Cond.after_iff.mpr (eq_i res_at (Term.int_eval (1)) rfl), trivial⟩ ⟨hq.1, hq.2.1, (hq.2.2.sift fun y hy => Or.inr (N y hy)).mono (by decide) (by decide)⟩⟩
theorem main_1_1 : Claimed_1_1 := comes_1 fun _ _ _ _ _ _ h hF => ⟨h.1, hF⟩
theorem main_1_2 : Claimed_1_2 := comes_1 fun _ _ _ _ _ _ h hF => ⟨h.2.1, hF⟩
end Jvm.Pilot.@@N@@
namespace Jvm.Pilot.@@N@@
open Jvm Jvm.ClassFile Sem Op Lib Jvm.Free Jvm.Stand Jvm.Pilot.@@N@@.Jvm.D
/-! MADE BY PROGRAM (witnessworld.py) out of the Statement's table words and the real class files: 12 classes; the members and pool entries that the words name. The judged class is class 1, her method 2. -/
namespace start1
open Jvm.ClassFile
def u (s : String) : CpInfo := .utf8 (stringToUtf16 s)
/-- a pool by its gaps: so many unusable entries, then the entry; so many at the end -/
def gap : Nat → List CpInfo → List CpInfo
  | 0, r => r
  | n + 1, r => .unusable :: gap n r
def poolList (es : List (Nat × CpInfo)) (last : Nat) : List CpInfo := es.foldr (fun e r => gap e.1 (e.2 :: r)) (gap last [])
def pool (es : List (Nat × CpInfo)) (last : Nat) : Array CpInfo := ⟨poolList es last⟩
def fileOf (pool : Array CpInfo) (this : Nat) (attrs : Array Attribute := #[]) (ms : Array MethodInfo := #[]) (fl : Nat := 33) (sup : Nat := 0) (ifs : Array Nat := #[]) (fds : Array FieldInfo := #[]) : ClassFile where
  minorVersion := 0
  majorVersion := 65
  constantPool := pool
  accessFlags := fl
  thisClass := this
  superClass := sup
  interfaces := ifs
  fields := fds
  methods := ms
  attributes := attrs
def plain (name : String) (sup : Option ClassId) : Class where
  name := name
  kind := .ordinary
  loader := none
  accessFlags := 33
  super := sup
  interfaces := #[]
  cf := none
  fields := #[]
  methods := #[]
  instanceTypes := #[]
  staticTypes := #[]
  resolved := #[]
  callSites := []
  init := .initialized
  statics := none
  mirror := none

def pool0 : Array CpInfo := pool [(5, u "<init>"), (0, u "()V"), (1, .class_ 10), (1, u "java/lang/Object")] 113

def k0m0 : Method := { name := "<init>", desc := "()V", sig := { parameters := [], returnType := none }, accessFlags := 1, code := none }
/-- java/lang/Object -/
def k0 : Class := { plain "java/lang/Object" none with
  accessFlags := 33
  interfaces := #[]
  cf := some (fileOf pool0 8 #[] #[{ accessFlags := 1, nameIndex := 5, descriptorIndex := 6, attributes := #[] }] 33 0 #[] #[])
  fields := #[]
  methods := #[k0m0]
  instanceTypes := #[]
  staticTypes := #[]
  resolved := Array.replicate 124 none
  statics := none }

def pool1 : Array CpInfo := pool [(2, .class_ 4), (1, u "java/lang/Object"), (0, u "<init>"), (0, u "()V"), (0, .fieldref 8 9), (0, .class_ 10), (0, .nameAndType 11 12), (0, u "com/example/bede/bede/Expression$StaticType"), (0, u "NODES"), (0, u "Lcom/example/bede/bede/Expression$StaticType;"), (0, .fieldref 8 14), (0, .nameAndType 15 12), (0, u "STRING"), (0, .fieldref 8 17), (0, .nameAndType 18 12), (0, u "NUMERIC"), (0, .fieldref 8 20), (0, .nameAndType 21 12), (0, u "BOOLEAN"), (0, .fieldref 8 23), (0, .nameAndType 24 12), (0, u "ANY"), (0, .integer 2147483647), (0, .methodref 27 28), (0, .class_ 29), (0, .nameAndType 30 31), (0, u "com/example/bede/bede/StaticTypeIsAtomicPinLaw"), (0, u "pick"), (0, u "(I)Lcom/example/bede/bede/Expression$StaticType;"), (0, .methodref 8 33), (0, .nameAndType 34 35), (0, u "isAtomic"), (0, u "()Z"), (3, u "law"), (0, u "(I)Z")] 6

def k1m0 : Method := { name := "<init>", desc := "()V", sig := { parameters := [], returnType := none }, accessFlags := 2, code := none }
def k1c1 : Code := { maxStack := 2, maxLocals := 1, code := method_2_code, exceptionTable := #[], attributes := #[] }
def k1m1 : Method := { name := "pick", desc := "(I)Lcom/example/bede/bede/Expression$StaticType;", sig := { parameters := [.int], returnType := some (.object "com/example/bede/bede/Expression$StaticType") }, accessFlags := 10, code := some k1c1 }
def k1c2 : Code := { maxStack := 2, maxLocals := 4, code := code, exceptionTable := #[], attributes := #[] }
def k1m2 : Method := { name := "law", desc := "(I)Z", sig := { parameters := [.int], returnType := some .boolean }, accessFlags := 9, code := some k1c2 }
/-- com/example/bede/bede/StaticTypeIsAtomicPinLaw -/
def k1 : Class := { plain "com/example/bede/bede/StaticTypeIsAtomicPinLaw" (some 0) with
  accessFlags := 49
  interfaces := #[]
  cf := some (fileOf pool1 27 #[] #[{ accessFlags := 2, nameIndex := 5, descriptorIndex := 6, attributes := #[] }, { accessFlags := 10, nameIndex := 30, descriptorIndex := 31, attributes := #[] }, { accessFlags := 9, nameIndex := 39, descriptorIndex := 40, attributes := #[] }] 49 2 #[] #[])
  fields := #[]
  methods := #[k1m0, k1m1, k1m2]
  instanceTypes := #[]
  staticTypes := #[]
  resolved := Array.replicate 47 none
  statics := none }

def pool2 : Array CpInfo := pool [(1, .class_ 2), (0, u "java/lang/constant/Constable"), (0, .class_ 4), (0, u "java/lang/Object")] 6

/-- java/lang/constant/Constable -/
def k2 : Class := { plain "java/lang/constant/Constable" (some 0) with
  accessFlags := 1537
  interfaces := #[]
  cf := some (fileOf pool2 1 #[] #[] 1537 3 #[] #[])
  fields := #[]
  methods := #[]
  instanceTypes := #[]
  staticTypes := #[]
  resolved := Array.replicate 11 none
  statics := none }

def pool3 : Array CpInfo := pool [(1, .class_ 2), (0, u "java/lang/Comparable"), (0, .class_ 4), (0, u "java/lang/Object")] 7

/-- java/lang/Comparable -/
def k3 : Class := { plain "java/lang/Comparable" (some 0) with
  accessFlags := 1537
  interfaces := #[]
  cf := some (fileOf pool3 1 #[] #[] 1537 3 #[] #[])
  fields := #[]
  methods := #[]
  instanceTypes := #[]
  staticTypes := #[]
  resolved := Array.replicate 12 none
  statics := none }

def pool4 : Array CpInfo := pool [(1, .class_ 2), (0, u "java/io/Serializable"), (0, .class_ 4), (0, u "java/lang/Object")] 2

/-- java/io/Serializable -/
def k4 : Class := { plain "java/io/Serializable" (some 0) with
  accessFlags := 1537
  interfaces := #[]
  cf := some (fileOf pool4 1 #[] #[] 1537 3 #[] #[])
  fields := #[]
  methods := #[]
  instanceTypes := #[]
  staticTypes := #[]
  resolved := Array.replicate 7 none
  statics := none }

def pool5 : Array CpInfo := pool [(2, .class_ 4), (1, u "java/lang/Enum"), (0, u "name"), (0, u "Ljava/lang/String;"), (2, u "ordinal"), (0, u "I"), (1, .class_ 14), (1, u "java/lang/Object"), (4, u "hash"), (86, .class_ 108), (1, u "java/lang/Enum$EnumDesc"), (2, .class_ 112), (0, u "java/lang/constant/Constable"), (0, .class_ 114), (0, u "java/lang/Comparable"), (0, .class_ 116), (0, u "java/io/Serializable")] 87

/-- java/lang/Enum -/
def k5 : Class := { plain "java/lang/Enum" (some 0) with
  accessFlags := 1057
  interfaces := #[2, 3, 4]
  cf := some (fileOf pool5 2 #[.nestMembers #[106]] #[] 1057 12 #[111, 113, 115] #[{ accessFlags := 18, nameIndex := 5, descriptorIndex := 6, attributes := #[] }, { accessFlags := 18, nameIndex := 9, descriptorIndex := 10, attributes := #[] }, { accessFlags := 2, nameIndex := 19, descriptorIndex := 10, attributes := #[] }])
  fields := #[{ name := "name", type := (.object "java/lang/String"), accessFlags := 18, slot := 0, constantValue := 0 }, { name := "ordinal", type := .int, accessFlags := 18, slot := 1, constantValue := 0 }, { name := "hash", type := .int, accessFlags := 2, slot := 2, constantValue := 0 }]
  methods := #[]
  instanceTypes := #[(.object "java/lang/String"), .int, .int]
  staticTypes := #[]
  resolved := Array.replicate 204 none
  statics := none }

def pool6 : Array CpInfo := pool [(1, .class_ 2), (0, u "com/example/bede/bede/Expression$StaticType"), (2, u "NODES"), (0, u "Lcom/example/bede/bede/Expression$StaticType;"), (0, .fieldref 1 8), (0, .nameAndType 9 6), (0, u "STRING"), (0, .fieldref 1 11), (0, .nameAndType 12 6), (0, u "NUMERIC"), (0, .fieldref 1 14), (0, .nameAndType 15 6), (0, u "BOOLEAN"), (2, u "ANY"), (2, u "$VALUES"), (0, u "[Lcom/example/bede/bede/Expression$StaticType;"), (6, .class_ 31), (1, u "java/lang/Enum"), (23, u "isAtomic"), (0, u "()Z"), (6, .class_ 64), (0, u "com/example/bede/bede/Expression")] 2

def k6c0 : Code := { maxStack := 2, maxLocals := 1, code := prog_22_method_4_code, exceptionTable := #[], attributes := #[] }
def k6m0 : Method := { name := "isAtomic", desc := "()Z", sig := { parameters := [], returnType := some .boolean }, accessFlags := 0, code := some k6c0 }
/-- com/example/bede/bede/Expression$StaticType -/
def k6 : Class := { plain "com/example/bede/bede/Expression$StaticType" (some 5) with
  accessFlags := 16433
  interfaces := #[]
  cf := some (fileOf pool6 1 #[.nestHost 63] #[{ accessFlags := 0, nameIndex := 55, descriptorIndex := 56, attributes := #[] }] 16433 29 #[] #[{ accessFlags := 16409, nameIndex := 5, descriptorIndex := 6, attributes := #[] }, { accessFlags := 16409, nameIndex := 9, descriptorIndex := 6, attributes := #[] }, { accessFlags := 16409, nameIndex := 12, descriptorIndex := 6, attributes := #[] }, { accessFlags := 16409, nameIndex := 15, descriptorIndex := 6, attributes := #[] }, { accessFlags := 16409, nameIndex := 18, descriptorIndex := 6, attributes := #[] }, { accessFlags := 4122, nameIndex := 21, descriptorIndex := 22, attributes := #[] }])
  fields := #[{ name := "NODES", type := (.object "com/example/bede/bede/Expression$StaticType"), accessFlags := 16409, slot := 0, constantValue := 0 }, { name := "STRING", type := (.object "com/example/bede/bede/Expression$StaticType"), accessFlags := 16409, slot := 1, constantValue := 0 }, { name := "NUMERIC", type := (.object "com/example/bede/bede/Expression$StaticType"), accessFlags := 16409, slot := 2, constantValue := 0 }, { name := "BOOLEAN", type := (.object "com/example/bede/bede/Expression$StaticType"), accessFlags := 16409, slot := 3, constantValue := 0 }, { name := "ANY", type := (.object "com/example/bede/bede/Expression$StaticType"), accessFlags := 16409, slot := 4, constantValue := 0 }, { name := "$VALUES", type := (.array (.object "com/example/bede/bede/Expression$StaticType")), accessFlags := 4122, slot := 5, constantValue := 0 }]
  methods := #[k6m0]
  instanceTypes := #[(.object "java/lang/String"), .int, .int]
  staticTypes := #[(.object "com/example/bede/bede/Expression$StaticType"), (.object "com/example/bede/bede/Expression$StaticType"), (.object "com/example/bede/bede/Expression$StaticType"), (.object "com/example/bede/bede/Expression$StaticType"), (.object "com/example/bede/bede/Expression$StaticType"), (.array (.object "com/example/bede/bede/Expression$StaticType"))]
  resolved := Array.replicate 67 none
  statics := some 0 }

def pool7 : Array CpInfo := pool [(1, u "java/lang/Cloneable"), (0, .class_ 1), (0, u "java/lang/Object"), (0, .class_ 3)] 3

/-- java/lang/Cloneable -/
def k7 : Class := { plain "java/lang/Cloneable" (some 0) with
  accessFlags := 1537
  interfaces := #[]
  cf := some (fileOf pool7 2 #[] #[] 1537 4 #[] #[])
  fields := #[]
  methods := #[]
  instanceTypes := #[]
  staticTypes := #[]
  resolved := Array.replicate 8 none
  statics := none }

/-- the primitive byte -/
def k8 : Class := { plain "byte" none with kind := .primitive 'B', accessFlags := 0x411 }
/-- [B -/
def k9 : Class := { plain "[B" (some 0) with kind := .array 8 .byte, interfaces := #[7, 4], accessFlags := 1041 }

/-- the primitive int -/
def k10 : Class := { plain "int" none with kind := .primitive 'I', accessFlags := 0x411 }
/-- [I -/
def k11 : Class := { plain "[I" (some 0) with kind := .array 10 .int, interfaces := #[7, 4], accessFlags := 1041 }

def heap : Heap := #[{ cls := 6, slots := #[.ref 1, .ref 2, .ref 3, .ref 4, .ref 5, .null], vm := .statics 6 },
  { cls := 6, slots := #[.null, .int 0, .int 0], vm := .none },
  { cls := 6, slots := #[.null, .int 1, .int 0], vm := .none },
  { cls := 6, slots := #[.null, .int 2, .int 0], vm := .none },
  { cls := 6, slots := #[.null, .int 3, .int 0], vm := .none },
  { cls := 6, slots := #[.null, .int 4, .int 0], vm := .none }]
def classes : Array Class := #[k0, k1, k2, k3, k4, k5, k6, k7, k8, k9, k10, k11]
def interned : List (Array UInt16 × Addr) := []
def slotsUsed : Nat := 21
def theMethod : MethodId := ⟨1, 2⟩
def args0 : Array Value := #[.int 2]
def aboutOver (below : List Frame) : State where
  vm := { classes := classes, interned := interned.toArray }
  heap := heap
  slotsUsed := slotsUsed
  threads := #[{ frames := .invoking theMethod args0 :: below }]
def below0 : List Frame := [.native { method := ⟨0, 0⟩, args := #[] }]
def about1 : State := aboutOver below0
def p0 : Program := .bare "" "" ""
def e0 : Env := launch0.env 0 0 0
theorem w_frames : about1.frames = Frame.invoking theMethod args0 :: below0 := rfl
set_option maxRecDepth 65536 in
theorem w_args : argsFit about1.vm theMethod args0 = true := by decide +kernel
set_option maxRecDepth 65536 in
theorem w_heap : heapFits about1 = true := by decide +kernel
set_option maxRecDepth 65536 in
theorem w_runnable : about1.curStatus? = some .runnable := by decide +kernel
set_option maxRecDepth 65536 in
theorem w_alone : about1.alone = true := by decide +kernel
set_option maxRecDepth 65536 in
theorem w_named : about1.methodNamed? x = some theMethod := by decide +kernel
set_option maxRecDepth 65536 in
theorem w_hears : about1.hears theMethod below0 = true := by decide +kernel
set_option maxRecDepth 65536 in
theorem w_ripe : about1.ripe theMethod args0 below0 = true := by decide +kernel
theorem w_running : about1.status = .running := rfl
set_option maxRecDepth 65536 in
theorem w_room : about1.hasRoom e0.platform room_1 = true :=
  launch0.hasRoom_least _ room_1 (by decide +kernel) (by decide +kernel) (by decide +kernel) (by decide +kernel) (by decide +kernel) (by decide +kernel)
theorem allAtoms_all (ts : List Jvm.Cond) (a : Array Jvm.Value) (st : Jvm.State) : (allAtoms ts).before a st = ts.all (fun c => c.before a st) := by
  induction ts with
  | nil => rfl
  | cons c t ih =>
    show (Jvm.Cond.and c (allAtoms t)).before a st = _
    rw [Jvm.Cond.before_and, ih, List.all_cons]
def words1 : List Jvm.Cond := Jvm.Cond.code x code maxLocals ret :: tables_1
/-- a 'code' word, met by the world's own term for the bytes: nothing is compared byte by byte -/
theorem code_word {y : MethodName} {bytes : ByteArray} {mx : Nat} {rt : Option FieldType} {a : Array Value} {s : State} {m : MethodId} {meth : Method} {c : Code} (h1 : s.methodNamed? y = some m) (h2 : s.vm.method? m = some meth) (h3 : meth.code = some c) (h4 : c.code = bytes)
    (h5 : (c.maxLocals == mx && c.exceptionTable.isEmpty && decide (c.maxStack ≤ mostOperands) && decide (meth.sig.returnType = rt) && !meth.locks && decide (parseMethodDescriptor y.desc = some meth.sig)) = true) : (Jvm.Cond.code y bytes mx rt).before a s = true := by
  simp only [Bool.and_eq_true, beq_iff_eq, Bool.not_eq_true', decide_eq_true_eq] at h5
  obtain ⟨⟨⟨⟨⟨g1, g2⟩, g3⟩, g4⟩, g5⟩, g6⟩ := h5
  simp [Cond.before, Cond.holds, Cond.value, h1, h2, h3, h4, g1, g2, g3, g4, g5, g6]
def isCode : Jvm.Cond → Bool
  | .code _ _ _ _ => true
  | _ => false
theorem all_split {L : List Jvm.Cond} {P : Jvm.Cond → Bool} (h1 : L.all (fun c => isCode c || P c) = true) (h2 : ∀ c ∈ L.filter isCode, P c = true) : L.all P = true := by
  refine List.all_eq_true.mpr fun c hc => ?_
  have h := List.all_eq_true.mp h1 c hc
  rcases Bool.eq_false_or_eq_true (isCode c) with hi | hi
  · exact h2 c (List.mem_filter.mpr ⟨hc, hi⟩)
  · simpa [hi] using h
set_option maxRecDepth 65536 in
theorem w_c0 : (Jvm.Cond.code x code maxLocals ret).before args0 about1 = true := code_word (m := ⟨1, 2⟩) (meth := k1m2) (c := k1c2) (by decide +kernel) rfl rfl rfl (by decide +kernel)
set_option maxRecDepth 65536 in
theorem w_c1 : (Jvm.Cond.code ({ cls := "com/example/bede/bede/StaticTypeIsAtomicPinLaw", name := "pick", desc := "(I)Lcom/example/bede/bede/Expression$StaticType;" } : Jvm.MethodName) method_2_code (1 : Nat) (Option.some (Jvm.ClassFile.FieldType.object "com/example/bede/bede/Expression$StaticType"))).before args0 about1 = true := code_word (m := ⟨1, 1⟩) (meth := k1m1) (c := k1c1) (by decide +kernel) rfl rfl rfl (by decide +kernel)
set_option maxRecDepth 65536 in
theorem w_c2 : (Jvm.Cond.code ({ cls := "com/example/bede/bede/Expression$StaticType", name := "isAtomic", desc := "()Z" } : Jvm.MethodName) prog_22_method_4_code (1 : Nat) (Option.some Jvm.ClassFile.FieldType.boolean)).before args0 about1 = true := code_word (m := ⟨6, 0⟩) (meth := k6m0) (c := k6c0) (by decide +kernel) rfl rfl rfl (by decide +kernel)
def codes1 : List Jvm.Cond := [Jvm.Cond.code x code maxLocals ret, Jvm.Cond.code ({ cls := "com/example/bede/bede/StaticTypeIsAtomicPinLaw", name := "pick", desc := "(I)Lcom/example/bede/bede/Expression$StaticType;" } : Jvm.MethodName) method_2_code (1 : Nat) (Option.some (Jvm.ClassFile.FieldType.object "com/example/bede/bede/Expression$StaticType")), Jvm.Cond.code ({ cls := "com/example/bede/bede/Expression$StaticType", name := "isAtomic", desc := "()Z" } : Jvm.MethodName) prog_22_method_4_code (1 : Nat) (Option.some Jvm.ClassFile.FieldType.boolean)]
set_option maxRecDepth 65536 in
theorem codes_eq : words1.filter isCode = codes1 := rfl
theorem w_codes : ∀ c ∈ words1.filter isCode, c.before args0 about1 = true := by
  rw [codes_eq]
  intro c hc
  simp only [codes1, List.mem_cons, List.not_mem_nil, or_false] at hc
  rcases hc with rfl | rfl | rfl
  · exact w_c0
  · exact w_c1
  · exact w_c2
set_option maxRecDepth 65536 in
theorem w_t1 : (words1.take 24).all (fun c => isCode c || c.before args0 about1) = true := by decide +kernel
set_option maxRecDepth 65536 in
theorem w_t2 : (words1.drop 24).all (fun c => isCode c || c.before args0 about1) = true := by decide +kernel
theorem w_tables : (allAtoms (Jvm.Cond.code x code maxLocals ret :: tables_1)).before args0 about1 = true := by
  rw [allAtoms_all]
  show words1.all (fun c => c.before args0 about1) = true
  refine all_split ?_ w_codes
  rw [← List.take_append_drop 24 words1, List.all_append, w_t1, w_t2]
  rfl
set_option maxRecDepth 65536 in
theorem w_case : (Jvm.Cond.and given_1 narrow_1).before args0 about1 = true := by decide +kernel
theorem w_applies : (headSpec (Jvm.Cond.code x code maxLocals ret :: tables_1) room_1).applies x e0.platform about1 = true :=
  (Spec.applies_iff w_frames).mpr ⟨w_running, w_runnable, w_alone, w_named, w_hears, w_ripe, w_room, w_tables⟩
theorem atStart : AtStart classFile x code maxLocals ret World_1 tables_1 room_1 Calls_1 rest_1 Pre_1 launch0 p0 e0 about1 theMethod args0 below0 :=
  ⟨lists_1, trivial, launch0.admits_env _ _ _, launch0.least_env, fairChoices_fair.cas, fairChoices_fair.clock, w_frames, w_args, w_heap, w_applies, trivial, trivial, w_case⟩
end start1
theorem witness_1 : WitnessClaimed_1 := ⟨start1.p0, start1.e0, start1.about1, start1.theMethod, start1.args0, start1.below0, start1.atStart⟩
end Jvm.Pilot.@@N@@
