import JvmDerived
import JvmDerived.Pilot.@@N@@Statement
import JvmDerived.Pilot.@@N@@Code
set_option linter.unusedVariables false
set_option linter.unusedSimpArgs false
@@BLOCK:NumsL.lean.txt@@
namespace Jvm.RoadKit
open Sem ClassFile Op Lib Jvm.Stand Jvm.Free Jvm.LawKit
section New
variable {p : Program} {l : Launch} {e : Env} {R : Room} {s : State} {m : MethodId} {args : Array Value} {below : List Frame} {meth : Method} {c : Code} {T : State} {locs : List Loc} {cells slots : Nat}
theorem retI (X : Stand p l e R s m args below meth c T locs cells slots) (hx : p.tables.exec = Jvm.exec) {pc : Nat} {Ls : Array Slot} {z : Int32} {rest : List Value} (hret : meth.sig.returnType = some .int) (hd : decode c.code pc = .ok (.ireturn, 1)) {fs : List Frame}
    (hl : ∀ (f : JFrame) (acts : List Action), f.method = m → f.locked = none → f.entered = [] → (doReturn e (T.setTop f) acts (some (.int z))).1 = T.setFrames fs) : Steps p.tables e below (T.setTop (mkF m pc Ls (.int z :: rest))) (T.setFrames fs) := by
  have hm' : T.vm.method? m = some meth := X.method'
  have hn : narrow .int (.int z) = .int z := rfl
  show Steps p.tables e below (T.setTop { method := m, pc := pc, locals := Ls, stack := _ :: rest, locked := none }) _
  jvm_step X.here [X.here.top, hx, hd, hm', hret, hn]
  first | (intro acts; rw [hl _ acts rfl rfl rfl]) | rw [hl _ _ rfl rfl rfl]
  exact Steps.refl _
end New
end Jvm.RoadKit
namespace Jvm.Pilot.@@N@@
open Jvm Jvm.ClassFile Sem Op Lib Jvm.Free Jvm.Stand Jvm.LawKit Jvm.RoadKit Bundle Jvm.Pilot.@@N@@.Jvm.D
section Own
variable {p : Program} {l : Launch} {e : Env} {R : Room} {s : State} {m : MethodId} {args : Array Value} {below : List Frame} {meth : Method} {c : Code} {T : State} {locs : List Loc} {cells slots : Nat}
/-- the run goes on from S to its end, and P holds there -/
def own_Goes (tb : Tables) (e : Env) (below : List Frame) (S : State) (P : State → Outcome → Prop) : Prop :=
  ∃ s₂ o, Steps tb e below S s₂ ∧ s₂.status = .running ∧ Ended s₂ below o ∧ P s₂ o
theorem own_step {tb : Tables} {S S' : State} {P : State → Outcome → Prop} (h : ∀ t, Steps tb e below S' t → Steps tb e below S t) (k : own_Goes tb e below S' P) : own_Goes tb e below S P := by
  obtain ⟨s₂, o, h1, h2⟩ := k
  exact ⟨s₂, o, h _ h1, h2⟩
theorem own_enter {tb : Tables} {g g' : JFrame} {P : State → Outcome → Prop} (q : g = g') (k : own_Goes tb e below (T.setTop g') P) : own_Goes tb e below (T.setTop g) P := q ▸ k
def own_P (s : State) (Q : Option Value → Heap → List Loc → Prop) (C K : Nat) : State → Outcome → Prop := fun U o => ∃ v L, o = .returned v ∧ Q v U.heap L ∧ FrameEnd s o U L C K
/-- a body that writes nothing -/
def own_Qp (w : Option Value) (h0 : Heap) (v : Option Value) (h : Heap) (L : List Loc) : Prop := v = w ∧ L = [] ∧ h = h0
/-- a body that makes cells and writes none that stood before -/
def own_Qa (w : Option Value) (h0 : Heap) (n0 : Nat) (v : Option Value) (h : Heap) (L : List Loc) : Prop := v = w ∧ Fr n0 L ∧ Keep h0 h []
/-- the law -/
def own_Ql (w : Option Value) (n0 : Nat) (v : Option Value) (h : Heap) (L : List Loc) : Prop := v = w ∧ Fr n0 L
variable {Q : Option Value → Heap → List Loc → Prop} {C K : Nat}
theorem own_retI (X : Stand p l e R s m args below meth c T locs cells slots) (hx : p.tables.exec = Jvm.exec) {pc : Nat} {Ls : Array Slot} {z : Int32} {rest : List Value} (hret : meth.sig.returnType = some .int) (hd : decode c.code pc = .ok (.ireturn, 1)) (hk : meth.locks = false)
    (hQ : Q (some (.int z)) T.heap locs) (hc : cells ≤ C) (hs : slots ≤ K) : own_Goes p.tables e below (T.setTop (mkF m pc Ls (.int z :: rest))) (own_P s Q C K) := by
  obtain ⟨fs, hr, hrun, hended, hW, hsame⟩ := X.leave (v := some (.int z)) (fun h => by rw [hret] at h; cases h) hk
  exact ⟨_, _, retI X hx hret hd hr, hrun, hended, _, _, rfl, hQ, ⟨_, rfl⟩, hW, hsame.mono hc hs⟩
theorem own_retN (X : Stand p l e R s m args below meth c T locs cells slots) (hx : p.tables.exec = Jvm.exec) {pc : Nat} {Ls : Array Slot} {z : Int32} {t : FieldType} {rest : List Value} (hret : meth.sig.returnType = some t) (ht : t = .boolean ∨ t = .byte ∨ t = .char ∨ t = .short) (hd : decode c.code pc = .ok (.ireturn, 1)) (hk : meth.locks = false)
    {w : Int32} (hw : nar t z = w) (hQ : Q (some (.int w)) T.heap locs) (hc : cells ≤ C) (hs : slots ≤ K) : own_Goes p.tables e below (T.setTop (mkF m pc Ls (.int z :: rest))) (own_P s Q C K) := by
  subst hw
  obtain ⟨fs, hr, hrun, hended, hW, hsame⟩ := X.leave (v := some (.int (nar t z))) (fun h => by rw [hret] at h; cases h) hk
  exact ⟨_, _, retN X hx hret ht hd hr, hrun, hended, _, _, rfl, hQ, ⟨_, rfl⟩, hW, hsame.mono hc hs⟩
theorem own_retJ (X : Stand p l e R s m args below meth c T locs cells slots) (hx : p.tables.exec = Jvm.exec) {pc : Nat} {Ls : Array Slot} {z : Int64} (hret : meth.sig.returnType = some .long) (hd : decode c.code pc = .ok (.lreturn, 1)) (hk : meth.locks = false)
    (hQ : Q (some (.long z)) T.heap locs) (hc : cells ≤ C) (hs : slots ≤ K) : own_Goes p.tables e below (T.setTop (mkF m pc Ls [.long z])) (own_P s Q C K) := by
  obtain ⟨fs, hr, hrun, hended, hW, hsame⟩ := X.leave (v := some (.long z)) (fun h => by rw [hret] at h; cases h) hk
  exact ⟨_, _, X.lreturnOut hx hret hd hr, hrun, hended, _, _, rfl, hQ, ⟨_, rfl⟩, hW, hsame.mono hc hs⟩
theorem own_retV (X : Stand p l e R s m args below meth c T locs cells slots) (hx : p.tables.exec = Jvm.exec) {pc : Nat} {Ls : Array Slot} (hret : meth.sig.returnType = none) (hd : decode c.code pc = .ok (.return_, 1)) (hk : meth.locks = false)
    (hQ : Q none T.heap locs) (hc : cells ≤ C) (hs : slots ≤ K) : own_Goes p.tables e below (T.setTop (mkF m pc Ls [])) (own_P s Q C K) := by
  obtain ⟨fs, hr, hrun, hended, hW, hsame⟩ := X.leave (v := none) (fun _ => rfl) hk
  exact ⟨_, _, X.returnOut hx hret hd hr, hrun, hended, _, _, rfl, hQ, ⟨_, rfl⟩, hW, hsame.mono hc hs⟩
theorem own_retA (X : Stand p l e R s m args below meth c T locs cells slots) (hx : p.tables.exec = Jvm.exec) {pc : Nat} {Ls : Array Slot} {z : Addr} {t : FieldType} {rest : List Value} (hret : meth.sig.returnType = some t) (hd : decode c.code pc = .ok (.areturn, 1)) (hk : meth.locks = false)
    (ht : t.isReference = true) (hn : narrow t (.ref z) = .ref z) (hQ : Q (some (.ref z)) T.heap locs) (hc : cells ≤ C) (hs : slots ≤ K) : own_Goes p.tables e below (T.setTop (mkF m pc Ls (.ref z :: rest))) (own_P s Q C K) := by
  obtain ⟨fs, hr, hrun, hended, hW, hsame⟩ := X.leave (v := some (.ref z)) (fun h => by rw [hret] at h; cases h) hk
  exact ⟨_, _, retOut X hx hret hn (Or.inr (Or.inr (Or.inr (Or.inr ⟨rfl, ht, rfl⟩)))) hd hr, hrun, hended, _, _, rfl, hQ, ⟨_, rfl⟩, hW, hsame.mono hc hs⟩
theorem own_flat (X : Stand p l e R s m args below meth c T (locs ++ []) (cells + 0) (slots + 0)) : Stand p l e R s m args below meth c T locs cells slots := List.append_nil locs ▸ X
end Own

theorem own_rem32 (x y : Int32) : (x - x / y * y).toInt = x.toInt.tmod y.toInt := by
  have a := (x % y).toInt_lt; have b := (x % y).le_toInt
  rw [Int32.toInt_mod] at a b
  rw [Int32.toInt_sub, Int32.toInt_mul, Int32.toInt_div, Int.bmod_mul_bmod, Int.sub_bmod_bmod, Int.mul_comm, ← Int.tmod_def]
  exact Jvm.Kit.bmod32 b a
theorem own_rem32n {x y : Int32} (hx : 0 ≤ x.toInt) : (x - x / y * y).toInt = x.toInt % y.toInt := by rw [own_rem32, Int.tmod_eq_emod_of_nonneg hx]
theorem own_m31 (x : Int32) : 0 ≤ (x &&& (2147483647 : Int32)).toInt ∧ (x &&& (2147483647 : Int32)).toInt < 2147483648 := by
  rw [Jvm.Kit.i32_mask x 2147483647 (k := 31) (by decide) (by decide)]
  omega
def own_St (Z : State) (h : Heap) (aF aK aS aW aB : Addr) : Prop := (Sta Z h "com/example/shingle/shingle/Signature$Parameter" "FAMILY" "Lcom/example/shingle/shingle/Signature$Parameter;" (.ref aF) ∧ Sta Z h "com/example/shingle/shingle/Signature$Parameter" "K" "Lcom/example/shingle/shingle/Signature$Parameter;" (.ref aK) ∧ Sta Z h "com/example/shingle/shingle/Signature$Parameter" "SEED" "Lcom/example/shingle/shingle/Signature$Parameter;" (.ref aS) ∧ Sta Z h "com/example/shingle/shingle/Signature$Parameter" "WIDTH" "Lcom/example/shingle/shingle/Signature$Parameter;" (.ref aW) ∧ Sta Z h "com/example/shingle/shingle/Signature$Parameter" "BITS" "Lcom/example/shingle/shingle/Signature$Parameter;" (.ref aB) ∧ True) ∧ (Exa Z h aF "com/example/shingle/shingle/Signature$Parameter" ∧ Fld Z h aF "com/example/shingle/shingle/Signature$Parameter" "min" "J" (.long (3 : Int64)) ∧ Fld Z h aF "com/example/shingle/shingle/Signature$Parameter" "max" "J" (.long (3 : Int64))) ∧ (Exa Z h aK "com/example/shingle/shingle/Signature$Parameter" ∧ Fld Z h aK "com/example/shingle/shingle/Signature$Parameter" "min" "J" (.long (1 : Int64)) ∧ Fld Z h aK "com/example/shingle/shingle/Signature$Parameter" "max" "J" (.long (4096 : Int64))) ∧ (Exa Z h aS "com/example/shingle/shingle/Signature$Parameter" ∧ Fld Z h aS "com/example/shingle/shingle/Signature$Parameter" "min" "J" (.long (-9223372036854775808 : Int64)) ∧ Fld Z h aS "com/example/shingle/shingle/Signature$Parameter" "max" "J" (.long (9223372036854775807 : Int64))) ∧ (Exa Z h aW "com/example/shingle/shingle/Signature$Parameter" ∧ Fld Z h aW "com/example/shingle/shingle/Signature$Parameter" "min" "J" (.long (1 : Int64)) ∧ Fld Z h aW "com/example/shingle/shingle/Signature$Parameter" "max" "J" (.long (64 : Int64))) ∧ (Exa Z h aB "com/example/shingle/shingle/Signature$Parameter" ∧ Fld Z h aB "com/example/shingle/shingle/Signature$Parameter" "min" "J" (.long (1 : Int64)) ∧ Fld Z h aB "com/example/shingle/shingle/Signature$Parameter" "max" "J" (.long (64 : Int64)))
theorem own_foL {args : Array Value} {Z : State} {t : Term} {a : Addr} {C n d : String} {k : Int64} (ev : t.eval args Z none [] Z = some (.ref a)) (h : (Jvm.Cond.eq (Term.field t C n d) (Term.long k)).value args Z none Z [] = some true) : Z.fieldOf? a C n d = some (.long k) := by
  have e := fld_at (C := C) (n := n) (dd := d) ev
  simp only [Cond.value] at h
  rw [e] at h
  cases hf : Z.fieldOf? a C n d with
  | none => rw [hf] at h; simp [Term.eval] at h
  | some v =>
    rw [hf] at h
    cases v <;> simp [Term.eval] at h
    rw [h]
def own_mn (k : Int32) : Int64 := if k = 0 then (3 : Int64) else if k = 1 then (1 : Int64) else if k = 2 then (-9223372036854775808 : Int64) else if k = 3 then (1 : Int64) else (1 : Int64)
def own_mx (k : Int32) : Int64 := if k = 0 then (3 : Int64) else if k = 1 then (4096 : Int64) else if k = 2 then (9223372036854775807 : Int64) else if k = 3 then (64 : Int64) else (64 : Int64)

theorem d1_0 : decode method_2_code 0 = .ok (.iload_n 0, 1) := by decide +kernel
theorem d1_1 : decode method_2_code 1 = .ok (.ifCond .ne 10, 3) := by decide +kernel
theorem d1_4 : decode method_2_code 4 = .ok (.getstatic 7, 3) := by decide +kernel
theorem d1_7 : decode method_2_code 7 = .ok (.astore_n 1, 1) := by decide +kernel
theorem d1_8 : decode method_2_code 8 = .ok (.goto 43, 3) := by decide +kernel
theorem d1_11 : decode method_2_code 11 = .ok (.iload_n 0, 1) := by decide +kernel
theorem d1_12 : decode method_2_code 12 = .ok (.iconst 1, 1) := by decide +kernel
theorem d1_13 : decode method_2_code 13 = .ok (.if_icmp .ne 10, 3) := by decide +kernel
theorem d1_16 : decode method_2_code 16 = .ok (.getstatic 13, 3) := by decide +kernel
theorem d1_19 : decode method_2_code 19 = .ok (.astore_n 1, 1) := by decide +kernel
theorem d1_20 : decode method_2_code 20 = .ok (.goto 31, 3) := by decide +kernel
theorem d1_23 : decode method_2_code 23 = .ok (.iload_n 0, 1) := by decide +kernel
theorem d1_24 : decode method_2_code 24 = .ok (.iconst 2, 1) := by decide +kernel
theorem d1_25 : decode method_2_code 25 = .ok (.if_icmp .ne 10, 3) := by decide +kernel
theorem d1_28 : decode method_2_code 28 = .ok (.getstatic 16, 3) := by decide +kernel
theorem d1_31 : decode method_2_code 31 = .ok (.astore_n 1, 1) := by decide +kernel
theorem d1_32 : decode method_2_code 32 = .ok (.goto 19, 3) := by decide +kernel
theorem d1_35 : decode method_2_code 35 = .ok (.iload_n 0, 1) := by decide +kernel
theorem d1_36 : decode method_2_code 36 = .ok (.iconst 3, 1) := by decide +kernel
theorem d1_37 : decode method_2_code 37 = .ok (.if_icmp .ne 10, 3) := by decide +kernel
theorem d1_40 : decode method_2_code 40 = .ok (.getstatic 19, 3) := by decide +kernel
theorem d1_43 : decode method_2_code 43 = .ok (.astore_n 1, 1) := by decide +kernel
theorem d1_44 : decode method_2_code 44 = .ok (.goto 7, 3) := by decide +kernel
theorem d1_47 : decode method_2_code 47 = .ok (.getstatic 22, 3) := by decide +kernel
theorem d1_50 : decode method_2_code 50 = .ok (.astore_n 1, 1) := by decide +kernel
theorem d1_51 : decode method_2_code 51 = .ok (.aload_n 1, 1) := by decide +kernel
theorem d1_52 : decode method_2_code 52 = .ok (.areturn, 1) := by decide +kernel
theorem pn_1 : plainName "com/example/shingle/shingle/ParameterSettablePinLaw" = true := by first | (simp [plainName, overriddenIn]; done) | decide +kernel
theorem ef_1 (m : MethodId) (p0 : Int32) : entryFrame m #[(.int p0)] 2 = mkF m 0 #[.val (.int p0), .unset] [] := by first | (simp [entryFrame, mkF, argsToLocals, Value.category]; done) | rfl
def own_f1_51 (r51_l1 : Addr) : Addr :=
  r51_l1
def own_f1 (p0 : Int32) (aF : Addr) (aK : Addr) (aS : Addr) (aW : Addr) (aB : Addr) : Addr :=
  if p0 = 0 then
    (own_f1_51 aF)
  else
    if p0 = (1 : Int32) then
      (own_f1_51 aK)
    else
      if p0 = (2 : Int32) then
        (own_f1_51 aS)
      else
        if p0 = (3 : Int32) then
          (own_f1_51 aW)
        else
          (own_f1_51 aB)
abbrev own_room1 : Room := { frames := 0, cells := 0, slots := 0, locals := 0 }
set_option maxRecDepth 65536 in
set_option maxHeartbeats 40000000 in
theorem rm1 (l : Launch) (Z : State) (a0 : Array Value) (hw : ∀ d ∈ tables_1, d.before a0 Z = true) (ws : List Jvm.Cond) (p0 : Int32) (aF : Addr) (aK : Addr) (aS : Addr) (aW : Addr) (aB : Addr) (h0 : Heap) (n0 : Nat) (Z0 : n0 ≤ h0.size) (hG : own_St Z h0 aF aK aS aW aB) :
    MetFree l (⟨"com/example/shingle/shingle/ParameterSettablePinLaw", "pick", "(I)Lcom/example/shingle/shingle/Signature$Parameter;"⟩ : MethodName) (head1 (Jvm.Cond.code (⟨"com/example/shingle/shingle/ParameterSettablePinLaw", "pick", "(I)Lcom/example/shingle/shingle/Signature$Parameter;"⟩ : MethodName) method_2_code 2 (some (.object "com/example/shingle/shingle/Signature$Parameter")) :: ws) own_room1) (fun a U => a = #[(.int p0)] ∧ Z.Warmed39 U.vm ∧ U.heap = h0) (fun _ _ _ _ _ => True) (fun _ U o U' => ∃ v L, o = .returned v ∧ own_Qp (some (.ref (own_f1 p0 aF aK aS aW aB))) h0 v U'.heap L ∧ FrameEnd U o U' L own_room1.cells own_room1.slots) := by
  refine MetFree.of_bodySF (plainFor_of_name pn_1) hisR ?_
  intro p e s m args below meth c s₁ Bd hml0 hP hK
  obtain ⟨rfl, hZ, hh⟩ := hP
  have hx := Bd.exec
  have hby := Bd.bytes
  have hml : c.maxLocals = 2 := hml0
  have hown : s.vm.findClass "com/example/shingle/shingle/ParameterSettablePinLaw" = some m.cls := findClass_of_methodNamed Bd.named
  have hnm := (name_of_methodNamed Bd.named Bd.method).1
  have X0 : Stand p l e own_room1 s m #[(.int p0)] below meth c s₁ [] 0 0 := Stand.of_body Bd
  have e0 : s₁.heap = h0 := by rw [← hh, Bd.state]; rfl
  have N0 := Fr.nil n0
  refine own_enter (ef_1 m p0) ?_
  show own_Goes p.tables e below (s₁.setTop (mkF m 0 #[.val (.int p0), .unset] [])) (own_P s (own_Qp (some (.ref (own_f1 p0 aF aK aS aW aB))) h0) own_room1.cells own_room1.slots)
  refine own_step (fun _ => XS.iloadN X0.here hx rfl (hb hby d1_0) rfl) ?_
  show own_Goes p.tables e below (s₁.setTop (mkF m 1 #[.val (.int p0), .unset] [(.int p0)])) _
  have J51 : ∀ (T_51 : State) (X_51 : Stand p l e own_room1 s m #[(.int p0)] below meth c T_51 [] 0 0) (e_51 : T_51.heap = h0) (r51_l1 : Addr), own_Goes p.tables e below (T_51.setTop (mkF m 51 #[.val (.int p0), .val (.ref r51_l1)] [])) (own_P s (own_Qp (some (.ref (own_f1_51 r51_l1))) h0) own_room1.cells own_room1.slots) := by
    intro T_51 X_51 e_51 r51_l1
    refine own_step (fun _ => XS.aloadN X_51.here hx rfl (hb hby d1_51) rfl rfl) ?_
    show own_Goes p.tables e below (T_51.setTop (mkF m 52 #[.val (.int p0), .val (.ref r51_l1)] [(.ref r51_l1)])) _
    have hv : (own_f1_51 r51_l1) = r51_l1 := by exact rfl
    rw [hv]
    exact own_retA X_51 hx Bd.returns (hb hby d1_52) (BodyLoose.notSynchronized Bd) rfl rfl ⟨rfl, rfl, e_51⟩ (by decide) (by decide)
  by_cases hc1 : p0 = 0
  · refine own_step (fun _ => XS.ifNo X0.here hx rfl (hb hby d1_1) rfl (Jvm.Free.XT.i0_ne_f hc1)) ?_
    show own_Goes p.tables e below (s₁.setTop (mkF m 4 #[.val (.int p0), .unset] [])) _
    obtain ⟨T1, X1, e1, st1⟩ := getS2 X0 hx hZ hown (host := "") (Or.inl (hw _ (List.mem_of_getElem? (i := 5) rfl))) Via.refl e0 hG.1.1 (g := (mkF m 4 #[.val (.int p0), .unset] [])) rfl (hb hby d1_4)
    refine own_step (st1) ?_
    show own_Goes p.tables e below (T1.setTop (mkF m 7 #[.val (.int p0), .unset] [(.ref aF)])) _
    refine own_step (fun _ => XS.astoreN X1.here hx rfl (hb hby d1_7) rfl rfl (l' := #[.val (.int p0), .val (.ref aF)]) rfl) ?_
    show own_Goes p.tables e below (T1.setTop (mkF m 8 #[.val (.int p0), .val (.ref aF)] [])) _
    refine own_step (fun _ => XS.goto X1.here hx rfl (pc0 := 8) (pc' := 51) rfl (hb hby d1_8) (by decide) (by decide)) ?_
    show own_Goes p.tables e below (T1.setTop (mkF m 51 #[.val (.int p0), .val (.ref aF)] [])) _
    have hv : (own_f1 p0 aF aK aS aW aB) = (own_f1_51 aF) := by exact (if_pos hc1)
    rw [hv]
    exact J51 T1 X1 e1 aF
  · refine own_step (fun _ => XS.ifYes X0.here hx rfl (pc0 := 1) (pc' := 11) rfl (hb hby d1_1) rfl (Jvm.Free.XT.i0_ne_t hc1) (by decide) (by decide)) ?_
    show own_Goes p.tables e below (s₁.setTop (mkF m 11 #[.val (.int p0), .unset] [])) _
    refine own_step (fun _ => XS.iloadN X0.here hx rfl (hb hby d1_11) rfl) ?_
    show own_Goes p.tables e below (s₁.setTop (mkF m 12 #[.val (.int p0), .unset] [(.int p0)])) _
    refine own_step (fun _ => XS.iconst X0.here hx rfl (hb hby d1_12)) ?_
    show own_Goes p.tables e below (s₁.setTop (mkF m 13 #[.val (.int p0), .unset] [(.int (1 : Int32)), (.int p0)])) _
    by_cases hc13 : p0 = (1 : Int32)
    · refine own_step (fun _ => XS.icmpNo X0.here hx rfl (hb hby d1_13) rfl (Jvm.Free.XT.ii_ne_f hc13)) ?_
      show own_Goes p.tables e below (s₁.setTop (mkF m 16 #[.val (.int p0), .unset] [])) _
      obtain ⟨T2, X2, e2, st2⟩ := getS2 X0 hx hZ hown (host := "") (Or.inl (hw _ (List.mem_of_getElem? (i := 29) rfl))) Via.refl e0 hG.1.2.1 (g := (mkF m 16 #[.val (.int p0), .unset] [])) rfl (hb hby d1_16)
      refine own_step (st2) ?_
      show own_Goes p.tables e below (T2.setTop (mkF m 19 #[.val (.int p0), .unset] [(.ref aK)])) _
      refine own_step (fun _ => XS.astoreN X2.here hx rfl (hb hby d1_19) rfl rfl (l' := #[.val (.int p0), .val (.ref aK)]) rfl) ?_
      show own_Goes p.tables e below (T2.setTop (mkF m 20 #[.val (.int p0), .val (.ref aK)] [])) _
      refine own_step (fun _ => XS.goto X2.here hx rfl (pc0 := 20) (pc' := 51) rfl (hb hby d1_20) (by decide) (by decide)) ?_
      show own_Goes p.tables e below (T2.setTop (mkF m 51 #[.val (.int p0), .val (.ref aK)] [])) _
      have hv : (own_f1 p0 aF aK aS aW aB) = (own_f1_51 aK) := by exact ((if_neg hc1)).trans (if_pos hc13)
      rw [hv]
      exact J51 T2 X2 e2 aK
    · refine own_step (fun _ => XS.icmpYes X0.here hx rfl (pc0 := 13) (pc' := 23) rfl (hb hby d1_13) rfl (Jvm.Free.XT.ii_ne_t hc13) (by decide) (by decide)) ?_
      show own_Goes p.tables e below (s₁.setTop (mkF m 23 #[.val (.int p0), .unset] [])) _
      refine own_step (fun _ => XS.iloadN X0.here hx rfl (hb hby d1_23) rfl) ?_
      show own_Goes p.tables e below (s₁.setTop (mkF m 24 #[.val (.int p0), .unset] [(.int p0)])) _
      refine own_step (fun _ => XS.iconst X0.here hx rfl (hb hby d1_24)) ?_
      show own_Goes p.tables e below (s₁.setTop (mkF m 25 #[.val (.int p0), .unset] [(.int (2 : Int32)), (.int p0)])) _
      by_cases hc25 : p0 = (2 : Int32)
      · refine own_step (fun _ => XS.icmpNo X0.here hx rfl (hb hby d1_25) rfl (Jvm.Free.XT.ii_ne_f hc25)) ?_
        show own_Goes p.tables e below (s₁.setTop (mkF m 28 #[.val (.int p0), .unset] [])) _
        obtain ⟨T3, X3, e3, st3⟩ := getS2 X0 hx hZ hown (host := "") (Or.inl (hw _ (List.mem_of_getElem? (i := 33) rfl))) Via.refl e0 hG.1.2.2.1 (g := (mkF m 28 #[.val (.int p0), .unset] [])) rfl (hb hby d1_28)
        refine own_step (st3) ?_
        show own_Goes p.tables e below (T3.setTop (mkF m 31 #[.val (.int p0), .unset] [(.ref aS)])) _
        refine own_step (fun _ => XS.astoreN X3.here hx rfl (hb hby d1_31) rfl rfl (l' := #[.val (.int p0), .val (.ref aS)]) rfl) ?_
        show own_Goes p.tables e below (T3.setTop (mkF m 32 #[.val (.int p0), .val (.ref aS)] [])) _
        refine own_step (fun _ => XS.goto X3.here hx rfl (pc0 := 32) (pc' := 51) rfl (hb hby d1_32) (by decide) (by decide)) ?_
        show own_Goes p.tables e below (T3.setTop (mkF m 51 #[.val (.int p0), .val (.ref aS)] [])) _
        have hv : (own_f1 p0 aF aK aS aW aB) = (own_f1_51 aS) := by exact (((if_neg hc1)).trans (if_neg hc13)).trans (if_pos hc25)
        rw [hv]
        exact J51 T3 X3 e3 aS
      · refine own_step (fun _ => XS.icmpYes X0.here hx rfl (pc0 := 25) (pc' := 35) rfl (hb hby d1_25) rfl (Jvm.Free.XT.ii_ne_t hc25) (by decide) (by decide)) ?_
        show own_Goes p.tables e below (s₁.setTop (mkF m 35 #[.val (.int p0), .unset] [])) _
        refine own_step (fun _ => XS.iloadN X0.here hx rfl (hb hby d1_35) rfl) ?_
        show own_Goes p.tables e below (s₁.setTop (mkF m 36 #[.val (.int p0), .unset] [(.int p0)])) _
        refine own_step (fun _ => XS.iconst X0.here hx rfl (hb hby d1_36)) ?_
        show own_Goes p.tables e below (s₁.setTop (mkF m 37 #[.val (.int p0), .unset] [(.int (3 : Int32)), (.int p0)])) _
        by_cases hc37 : p0 = (3 : Int32)
        · refine own_step (fun _ => XS.icmpNo X0.here hx rfl (hb hby d1_37) rfl (Jvm.Free.XT.ii_ne_f hc37)) ?_
          show own_Goes p.tables e below (s₁.setTop (mkF m 40 #[.val (.int p0), .unset] [])) _
          obtain ⟨T4, X4, e4, st4⟩ := getS2 X0 hx hZ hown (host := "") (Or.inl (hw _ (List.mem_of_getElem? (i := 27) rfl))) Via.refl e0 hG.1.2.2.2.1 (g := (mkF m 40 #[.val (.int p0), .unset] [])) rfl (hb hby d1_40)
          refine own_step (st4) ?_
          show own_Goes p.tables e below (T4.setTop (mkF m 43 #[.val (.int p0), .unset] [(.ref aW)])) _
          refine own_step (fun _ => XS.astoreN X4.here hx rfl (hb hby d1_43) rfl rfl (l' := #[.val (.int p0), .val (.ref aW)]) rfl) ?_
          show own_Goes p.tables e below (T4.setTop (mkF m 44 #[.val (.int p0), .val (.ref aW)] [])) _
          refine own_step (fun _ => XS.goto X4.here hx rfl (pc0 := 44) (pc' := 51) rfl (hb hby d1_44) (by decide) (by decide)) ?_
          show own_Goes p.tables e below (T4.setTop (mkF m 51 #[.val (.int p0), .val (.ref aW)] [])) _
          have hv : (own_f1 p0 aF aK aS aW aB) = (own_f1_51 aW) := by exact ((((if_neg hc1)).trans (if_neg hc13)).trans (if_neg hc25)).trans (if_pos hc37)
          rw [hv]
          exact J51 T4 X4 e4 aW
        · refine own_step (fun _ => XS.icmpYes X0.here hx rfl (pc0 := 37) (pc' := 47) rfl (hb hby d1_37) rfl (Jvm.Free.XT.ii_ne_t hc37) (by decide) (by decide)) ?_
          show own_Goes p.tables e below (s₁.setTop (mkF m 47 #[.val (.int p0), .unset] [])) _
          obtain ⟨T5, X5, e5, st5⟩ := getS2 X0 hx hZ hown (host := "") (Or.inl (hw _ (List.mem_of_getElem? (i := 31) rfl))) Via.refl e0 hG.1.2.2.2.2.1 (g := (mkF m 47 #[.val (.int p0), .unset] [])) rfl (hb hby d1_47)
          refine own_step (st5) ?_
          show own_Goes p.tables e below (T5.setTop (mkF m 50 #[.val (.int p0), .unset] [(.ref aB)])) _
          refine own_step (fun _ => XS.astoreN X5.here hx rfl (hb hby d1_50) rfl rfl (l' := #[.val (.int p0), .val (.ref aB)]) rfl) ?_
          show own_Goes p.tables e below (T5.setTop (mkF m 51 #[.val (.int p0), .val (.ref aB)] [])) _
          have hv : (own_f1 p0 aF aK aS aW aB) = (own_f1_51 aB) := by exact ((((if_neg hc1)).trans (if_neg hc13)).trans (if_neg hc25)).trans (if_neg hc37)
          rw [hv]
          exact J51 T5 X5 e5 aB
theorem own_exa {Z : State} {h : Heap} {aF aK aS aW aB : Addr} (k : Int32) (H : (Exa Z h aF "com/example/shingle/shingle/Signature$Parameter" ∧ Fld Z h aF "com/example/shingle/shingle/Signature$Parameter" "min" "J" (.long (3 : Int64)) ∧ Fld Z h aF "com/example/shingle/shingle/Signature$Parameter" "max" "J" (.long (3 : Int64))) ∧ (Exa Z h aK "com/example/shingle/shingle/Signature$Parameter" ∧ Fld Z h aK "com/example/shingle/shingle/Signature$Parameter" "min" "J" (.long (1 : Int64)) ∧ Fld Z h aK "com/example/shingle/shingle/Signature$Parameter" "max" "J" (.long (4096 : Int64))) ∧ (Exa Z h aS "com/example/shingle/shingle/Signature$Parameter" ∧ Fld Z h aS "com/example/shingle/shingle/Signature$Parameter" "min" "J" (.long (-9223372036854775808 : Int64)) ∧ Fld Z h aS "com/example/shingle/shingle/Signature$Parameter" "max" "J" (.long (9223372036854775807 : Int64))) ∧ (Exa Z h aW "com/example/shingle/shingle/Signature$Parameter" ∧ Fld Z h aW "com/example/shingle/shingle/Signature$Parameter" "min" "J" (.long (1 : Int64)) ∧ Fld Z h aW "com/example/shingle/shingle/Signature$Parameter" "max" "J" (.long (64 : Int64))) ∧ (Exa Z h aB "com/example/shingle/shingle/Signature$Parameter" ∧ Fld Z h aB "com/example/shingle/shingle/Signature$Parameter" "min" "J" (.long (1 : Int64)) ∧ Fld Z h aB "com/example/shingle/shingle/Signature$Parameter" "max" "J" (.long (64 : Int64)))) : Exa Z h (own_f1 k aF aK aS aW aB) "com/example/shingle/shingle/Signature$Parameter" ∧ Fld Z h (own_f1 k aF aK aS aW aB) "com/example/shingle/shingle/Signature$Parameter" "min" "J" (.long (own_mn k)) ∧ Fld Z h (own_f1 k aF aK aS aW aB) "com/example/shingle/shingle/Signature$Parameter" "max" "J" (.long (own_mx k)) := by
  obtain ⟨hF, hK, hS, hW, hB⟩ := H
  unfold own_f1 own_f1_51 own_mn own_mx
  by_cases h0 : k = 0
  · rw [if_pos h0, if_pos h0, if_pos h0]; exact hF
  · rw [if_neg h0, if_neg h0, if_neg h0]
    by_cases h1 : k = 1
    · rw [if_pos h1, if_pos h1, if_pos h1]; exact hK
    · rw [if_neg h1, if_neg h1, if_neg h1]
      by_cases h2 : k = 2
      · rw [if_pos h2, if_pos h2, if_pos h2]; exact hS
      · rw [if_neg h2, if_neg h2, if_neg h2]
        by_cases h3 : k = 3
        · rw [if_pos h3, if_pos h3, if_pos h3]; exact hW
        · rw [if_neg h3, if_neg h3, if_neg h3]; exact hB

theorem d2_0 : decode prog_30_method_6_code 0 = .ok (.aload_n 0, 1) := by decide +kernel
theorem d2_1 : decode prog_30_method_6_code 1 = .ok (.getfield 42, 3) := by decide +kernel
theorem d2_4 : decode prog_30_method_6_code 4 = .ok (.aload_n 0, 1) := by decide +kernel
theorem d2_5 : decode prog_30_method_6_code 5 = .ok (.getfield 46, 3) := by decide +kernel
theorem d2_8 : decode prog_30_method_6_code 8 = .ok (.lcmp, 1) := by decide +kernel
theorem d2_9 : decode prog_30_method_6_code 9 = .ok (.ifCond .ge 7, 3) := by decide +kernel
theorem d2_12 : decode prog_30_method_6_code 12 = .ok (.iconst 1, 1) := by decide +kernel
theorem d2_13 : decode prog_30_method_6_code 13 = .ok (.goto 4, 3) := by decide +kernel
theorem d2_16 : decode prog_30_method_6_code 16 = .ok (.iconst 0, 1) := by decide +kernel
theorem d2_17 : decode prog_30_method_6_code 17 = .ok (.ireturn, 1) := by decide +kernel
theorem pn_2 : plainName "com/example/shingle/shingle/Signature$Parameter" = true := by first | (simp [plainName, overriddenIn]; done) | decide +kernel
theorem ef_2 (m : MethodId) (r0 : Addr) : entryFrame m #[(.ref r0)] 1 = mkF m 0 #[.val (.ref r0)] [] := by first | (simp [entryFrame, mkF, argsToLocals, Value.category]; done) | rfl
def own_f2 (mn : Int64) (mx : Int64) (aF : Addr) (aK : Addr) (aS : Addr) (aW : Addr) (aB : Addr) : Int32 :=
  if mn < mx then
    (1 : Int32)
  else
    (0 : Int32)
abbrev own_room2 : Room := { frames := 0, cells := 0, slots := 0, locals := 0 }
set_option maxRecDepth 65536 in
set_option maxHeartbeats 40000000 in
theorem rm2 (l : Launch) (Z : State) (a0 : Array Value) (hw : ∀ d ∈ tables_1, d.before a0 Z = true) (ws : List Jvm.Cond) (r0 : Addr) (aF : Addr) (aK : Addr) (aS : Addr) (aW : Addr) (aB : Addr) (mn : Int64) (mx : Int64) (h0 : Heap) (n0 : Nat) (Z0 : n0 ≤ h0.size) (F_min_r0 : Fld Z h0 r0 "com/example/shingle/shingle/Signature$Parameter" "min" "J" (.long mn)) (F_max_r0 : Fld Z h0 r0 "com/example/shingle/shingle/Signature$Parameter" "max" "J" (.long mx)) (hG : own_St Z h0 aF aK aS aW aB) :
    MetFree l (⟨"com/example/shingle/shingle/Signature$Parameter", "settable", "()Z"⟩ : MethodName) (head1 (Jvm.Cond.code (⟨"com/example/shingle/shingle/Signature$Parameter", "settable", "()Z"⟩ : MethodName) prog_30_method_6_code 1 (some .boolean) :: ws) own_room2) (fun a U => a = #[(.ref r0)] ∧ Z.Warmed39 U.vm ∧ U.heap = h0) (fun _ _ _ _ _ => True) (fun _ U o U' => ∃ v L, o = .returned v ∧ own_Qp (some (.int (own_f2 mn mx aF aK aS aW aB))) h0 v U'.heap L ∧ FrameEnd U o U' L own_room2.cells own_room2.slots) := by
  refine MetFree.of_bodySF (plainFor_of_name pn_2) hisR ?_
  intro p e s m args below meth c s₁ Bd hml0 hP hK
  obtain ⟨rfl, hZ, hh⟩ := hP
  have hx := Bd.exec
  have hby := Bd.bytes
  have hml : c.maxLocals = 1 := hml0
  have hown : s.vm.findClass "com/example/shingle/shingle/Signature$Parameter" = some m.cls := findClass_of_methodNamed Bd.named
  have hnm := (name_of_methodNamed Bd.named Bd.method).1
  have X0 : Stand p l e own_room2 s m #[(.ref r0)] below meth c s₁ [] 0 0 := Stand.of_body Bd
  have e0 : s₁.heap = h0 := by rw [← hh, Bd.state]; rfl
  have N0 := Fr.nil n0
  refine own_enter (ef_2 m r0) ?_
  show own_Goes p.tables e below (s₁.setTop (mkF m 0 #[.val (.ref r0)] [])) (own_P s (own_Qp (some (.int (own_f2 mn mx aF aK aS aW aB))) h0) own_room2.cells own_room2.slots)
  refine own_step (fun _ => XS.aloadN X0.here hx rfl (hb hby d2_0) rfl rfl) ?_
  show own_Goes p.tables e below (s₁.setTop (mkF m 1 #[.val (.ref r0)] [(.ref r0)])) _
  obtain ⟨T1, X1, e1, st1⟩ := getF X0 hx hZ hown (host := "") (Or.inl (hw _ (List.mem_of_getElem? (i := 13) rfl))) Via.refl e0 F_min_r0 (g := (mkF m 1 #[.val (.ref r0)] [(.ref r0)])) rfl rfl (hb hby d2_1)
  refine own_step (st1) ?_
  show own_Goes p.tables e below (T1.setTop (mkF m 4 #[.val (.ref r0)] [(.long mn)])) _
  refine own_step (fun _ => XS.aloadN X1.here hx rfl (hb hby d2_4) rfl rfl) ?_
  show own_Goes p.tables e below (T1.setTop (mkF m 5 #[.val (.ref r0)] [(.ref r0), (.long mn)])) _
  obtain ⟨T2, X2, e2, st2⟩ := getF X1 hx hZ hown (host := "") (Or.inl (hw _ (List.mem_of_getElem? (i := 15) rfl))) Via.refl e1 F_max_r0 (g := (mkF m 5 #[.val (.ref r0)] [(.ref r0), (.long mn)])) rfl rfl (hb hby d2_5)
  refine own_step (st2) ?_
  show own_Goes p.tables e below (T2.setTop (mkF m 8 #[.val (.ref r0)] [(.long mx), (.long mn)])) _
  refine own_step (fun _ => Jvm.Free.XT.lcmp X2.here hx rfl (hb hby d2_8) rfl) ?_
  show own_Goes p.tables e below (T2.setTop (mkF m 9 #[.val (.ref r0)] [(.int (Jvm.Free.XT.cmpL mn mx))])) _
  by_cases hc9 : mn < mx
  · refine own_step (fun _ => XS.ifNo X2.here hx rfl (hb hby d2_9) rfl (Jvm.Free.XT.ll_ge_f hc9)) ?_
    show own_Goes p.tables e below (T2.setTop (mkF m 12 #[.val (.ref r0)] [])) _
    refine own_step (fun _ => XS.iconst X2.here hx rfl (hb hby d2_12)) ?_
    show own_Goes p.tables e below (T2.setTop (mkF m 13 #[.val (.ref r0)] [(.int (1 : Int32))])) _
    refine own_step (fun _ => XS.goto X2.here hx rfl (pc0 := 13) (pc' := 17) rfl (hb hby d2_13) (by decide) (by decide)) ?_
    show own_Goes p.tables e below (T2.setTop (mkF m 17 #[.val (.ref r0)] [(.int (1 : Int32))])) _
    have hv : (own_f2 mn mx aF aK aS aW aB) = (1 : Int32) := by exact (if_pos hc9)
    rw [hv]
    exact own_retN X2 hx (t := .boolean) Bd.returns (by simp) (hb hby d2_17) (BodyLoose.notSynchronized Bd) (w := (1 : Int32)) rfl ⟨rfl, rfl, e2⟩ (by decide) (by decide)
  · refine own_step (fun _ => XS.ifYes X2.here hx rfl (pc0 := 9) (pc' := 16) rfl (hb hby d2_9) rfl (Jvm.Free.XT.ll_ge_t hc9) (by decide) (by decide)) ?_
    show own_Goes p.tables e below (T2.setTop (mkF m 16 #[.val (.ref r0)] [])) _
    refine own_step (fun _ => XS.iconst X2.here hx rfl (hb hby d2_16)) ?_
    show own_Goes p.tables e below (T2.setTop (mkF m 17 #[.val (.ref r0)] [(.int (0 : Int32))])) _
    have hv : (own_f2 mn mx aF aK aS aW aB) = (0 : Int32) := by exact (if_neg hc9)
    rw [hv]
    exact own_retN X2 hx (t := .boolean) Bd.returns (by simp) (hb hby d2_17) (BodyLoose.notSynchronized Bd) (w := (0 : Int32)) rfl ⟨rfl, rfl, e2⟩ (by decide) (by decide)
theorem d3_0 : decode prog_30_method_7_code 0 = .ok (.aload_n 0, 1) := by decide +kernel
theorem d3_1 : decode prog_30_method_7_code 1 = .ok (.getfield 42, 3) := by decide +kernel
theorem d3_4 : decode prog_30_method_7_code 4 = .ok (.lreturn, 1) := by decide +kernel
theorem pn_3 : plainName "com/example/shingle/shingle/Signature$Parameter" = true := by first | (simp [plainName, overriddenIn]; done) | decide +kernel
theorem ef_3 (m : MethodId) (r0 : Addr) : entryFrame m #[(.ref r0)] 1 = mkF m 0 #[.val (.ref r0)] [] := by first | (simp [entryFrame, mkF, argsToLocals, Value.category]; done) | rfl
def own_f3 (mn : Int64) (aF : Addr) (aK : Addr) (aS : Addr) (aW : Addr) (aB : Addr) : Int64 :=
  mn
abbrev own_room3 : Room := { frames := 0, cells := 0, slots := 0, locals := 0 }
set_option maxRecDepth 65536 in
set_option maxHeartbeats 40000000 in
theorem rm3 (l : Launch) (Z : State) (a0 : Array Value) (hw : ∀ d ∈ tables_1, d.before a0 Z = true) (ws : List Jvm.Cond) (r0 : Addr) (aF : Addr) (aK : Addr) (aS : Addr) (aW : Addr) (aB : Addr) (mn : Int64) (h0 : Heap) (n0 : Nat) (Z0 : n0 ≤ h0.size) (F_min_r0 : Fld Z h0 r0 "com/example/shingle/shingle/Signature$Parameter" "min" "J" (.long mn)) (hG : own_St Z h0 aF aK aS aW aB) :
    MetFree l (⟨"com/example/shingle/shingle/Signature$Parameter", "min", "()J"⟩ : MethodName) (head1 (Jvm.Cond.code (⟨"com/example/shingle/shingle/Signature$Parameter", "min", "()J"⟩ : MethodName) prog_30_method_7_code 1 (some .long) :: ws) own_room3) (fun a U => a = #[(.ref r0)] ∧ Z.Warmed39 U.vm ∧ U.heap = h0) (fun _ _ _ _ _ => True) (fun _ U o U' => ∃ v L, o = .returned v ∧ own_Qp (some (.long (own_f3 mn aF aK aS aW aB))) h0 v U'.heap L ∧ FrameEnd U o U' L own_room3.cells own_room3.slots) := by
  refine MetFree.of_bodySF (plainFor_of_name pn_3) hisR ?_
  intro p e s m args below meth c s₁ Bd hml0 hP hK
  obtain ⟨rfl, hZ, hh⟩ := hP
  have hx := Bd.exec
  have hby := Bd.bytes
  have hml : c.maxLocals = 1 := hml0
  have hown : s.vm.findClass "com/example/shingle/shingle/Signature$Parameter" = some m.cls := findClass_of_methodNamed Bd.named
  have hnm := (name_of_methodNamed Bd.named Bd.method).1
  have X0 : Stand p l e own_room3 s m #[(.ref r0)] below meth c s₁ [] 0 0 := Stand.of_body Bd
  have e0 : s₁.heap = h0 := by rw [← hh, Bd.state]; rfl
  have N0 := Fr.nil n0
  refine own_enter (ef_3 m r0) ?_
  show own_Goes p.tables e below (s₁.setTop (mkF m 0 #[.val (.ref r0)] [])) (own_P s (own_Qp (some (.long (own_f3 mn aF aK aS aW aB))) h0) own_room3.cells own_room3.slots)
  refine own_step (fun _ => XS.aloadN X0.here hx rfl (hb hby d3_0) rfl rfl) ?_
  show own_Goes p.tables e below (s₁.setTop (mkF m 1 #[.val (.ref r0)] [(.ref r0)])) _
  obtain ⟨T1, X1, e1, st1⟩ := getF X0 hx hZ hown (host := "") (Or.inl (hw _ (List.mem_of_getElem? (i := 13) rfl))) Via.refl e0 F_min_r0 (g := (mkF m 1 #[.val (.ref r0)] [(.ref r0)])) rfl rfl (hb hby d3_1)
  refine own_step (st1) ?_
  show own_Goes p.tables e below (T1.setTop (mkF m 4 #[.val (.ref r0)] [(.long mn)])) _
  have hv : (own_f3 mn aF aK aS aW aB) = mn := by exact rfl
  rw [hv]
  exact own_retJ X1 hx Bd.returns (hb hby d3_4) (BodyLoose.notSynchronized Bd) ⟨rfl, rfl, e1⟩ (by decide) (by decide)
theorem d4_0 : decode prog_30_method_8_code 0 = .ok (.aload_n 0, 1) := by decide +kernel
theorem d4_1 : decode prog_30_method_8_code 1 = .ok (.getfield 46, 3) := by decide +kernel
theorem d4_4 : decode prog_30_method_8_code 4 = .ok (.lreturn, 1) := by decide +kernel
theorem pn_4 : plainName "com/example/shingle/shingle/Signature$Parameter" = true := by first | (simp [plainName, overriddenIn]; done) | decide +kernel
theorem ef_4 (m : MethodId) (r0 : Addr) : entryFrame m #[(.ref r0)] 1 = mkF m 0 #[.val (.ref r0)] [] := by first | (simp [entryFrame, mkF, argsToLocals, Value.category]; done) | rfl
def own_f4 (mx : Int64) (aF : Addr) (aK : Addr) (aS : Addr) (aW : Addr) (aB : Addr) : Int64 :=
  mx
abbrev own_room4 : Room := { frames := 0, cells := 0, slots := 0, locals := 0 }
set_option maxRecDepth 65536 in
set_option maxHeartbeats 40000000 in
theorem rm4 (l : Launch) (Z : State) (a0 : Array Value) (hw : ∀ d ∈ tables_1, d.before a0 Z = true) (ws : List Jvm.Cond) (r0 : Addr) (aF : Addr) (aK : Addr) (aS : Addr) (aW : Addr) (aB : Addr) (mx : Int64) (h0 : Heap) (n0 : Nat) (Z0 : n0 ≤ h0.size) (F_max_r0 : Fld Z h0 r0 "com/example/shingle/shingle/Signature$Parameter" "max" "J" (.long mx)) (hG : own_St Z h0 aF aK aS aW aB) :
    MetFree l (⟨"com/example/shingle/shingle/Signature$Parameter", "max", "()J"⟩ : MethodName) (head1 (Jvm.Cond.code (⟨"com/example/shingle/shingle/Signature$Parameter", "max", "()J"⟩ : MethodName) prog_30_method_8_code 1 (some .long) :: ws) own_room4) (fun a U => a = #[(.ref r0)] ∧ Z.Warmed39 U.vm ∧ U.heap = h0) (fun _ _ _ _ _ => True) (fun _ U o U' => ∃ v L, o = .returned v ∧ own_Qp (some (.long (own_f4 mx aF aK aS aW aB))) h0 v U'.heap L ∧ FrameEnd U o U' L own_room4.cells own_room4.slots) := by
  refine MetFree.of_bodySF (plainFor_of_name pn_4) hisR ?_
  intro p e s m args below meth c s₁ Bd hml0 hP hK
  obtain ⟨rfl, hZ, hh⟩ := hP
  have hx := Bd.exec
  have hby := Bd.bytes
  have hml : c.maxLocals = 1 := hml0
  have hown : s.vm.findClass "com/example/shingle/shingle/Signature$Parameter" = some m.cls := findClass_of_methodNamed Bd.named
  have hnm := (name_of_methodNamed Bd.named Bd.method).1
  have X0 : Stand p l e own_room4 s m #[(.ref r0)] below meth c s₁ [] 0 0 := Stand.of_body Bd
  have e0 : s₁.heap = h0 := by rw [← hh, Bd.state]; rfl
  have N0 := Fr.nil n0
  refine own_enter (ef_4 m r0) ?_
  show own_Goes p.tables e below (s₁.setTop (mkF m 0 #[.val (.ref r0)] [])) (own_P s (own_Qp (some (.long (own_f4 mx aF aK aS aW aB))) h0) own_room4.cells own_room4.slots)
  refine own_step (fun _ => XS.aloadN X0.here hx rfl (hb hby d4_0) rfl rfl) ?_
  show own_Goes p.tables e below (s₁.setTop (mkF m 1 #[.val (.ref r0)] [(.ref r0)])) _
  obtain ⟨T1, X1, e1, st1⟩ := getF X0 hx hZ hown (host := "") (Or.inl (hw _ (List.mem_of_getElem? (i := 15) rfl))) Via.refl e0 F_max_r0 (g := (mkF m 1 #[.val (.ref r0)] [(.ref r0)])) rfl rfl (hb hby d4_1)
  refine own_step (st1) ?_
  show own_Goes p.tables e below (T1.setTop (mkF m 4 #[.val (.ref r0)] [(.long mx)])) _
  have hv : (own_f4 mx aF aK aS aW aB) = mx := by exact rfl
  rw [hv]
  exact own_retJ X1 hx Bd.returns (hb hby d4_4) (BodyLoose.notSynchronized Bd) ⟨rfl, rfl, e1⟩ (by decide) (by decide)
theorem pn_0 : plainName "com/example/shingle/shingle/ParameterSettablePinLaw" = true := by first | (simp [plainName, overriddenIn]; done) | decide +kernel
theorem pd_0_0 : parseMethodDescriptor "(I)Lcom/example/shingle/shingle/Signature$Parameter;" = some ⟨[.int], some (.object "com/example/shingle/shingle/Signature$Parameter")⟩ := by decide +kernel
theorem pd_0_1 : parseMethodDescriptor "()Z" = some ⟨[], some .boolean⟩ := by decide +kernel
theorem pd_0_2 : parseMethodDescriptor "()J" = some ⟨[], some .long⟩ := by decide +kernel
theorem ef_0 (m : MethodId) (p0 : Int32) : entryFrame m #[(.int p0)] maxLocals = mkF m 0 #[.val (.int p0), .unset, .unset, .unset, .unset, .unset, .unset, .unset, .unset] [] := by first | (simp [entryFrame, mkF, argsToLocals, Value.category, maxLocals]; done) | rfl
def own_f0_76 : Int32 :=
  (0 : Int32)
def own_f0_61 (aF : Addr) (aK : Addr) (aS : Addr) (aW : Addr) (aB : Addr) (z6 : Int32) (z26 : Int32) (v61_t0 : Int32) : Int32 :=
  if z26 = v61_t0 then
    if (own_f4 (own_mx z6) aF aK aS aW aB) < (own_f3 (own_mn z6) aF aK aS aW aB) then
      (own_f0_76)
    else
      (1 : Int32)
  else
    (own_f0_76)
def own_f0_21 (aF : Addr) (aK : Addr) (aS : Addr) (aW : Addr) (aB : Addr) (z6 : Int32) (v21_t0 : Int32) : Int32 :=
  let z26 : Int32 := (own_f2 (own_mn z6) (own_mx z6) aF aK aS aW aB)
  if z26 = v21_t0 then
    if (own_f3 (own_mn z6) aF aK aS aW aB) = (own_f4 (own_mx z6) aF aK aS aW aB) then
      (own_f0_61 aF aK aS aW aB z6 z26 (0 : Int32))
    else
      (own_f0_61 aF aK aS aW aB z6 z26 (1 : Int32))
  else
    (own_f0_76)
def own_f0 (p0 : Int32) (aF : Addr) (aK : Addr) (aS : Addr) (aW : Addr) (aB : Addr) : Int32 :=
  let z6 : Int32 := ((p0 &&& (2147483647 : Int32)) - (p0 &&& (2147483647 : Int32)) / (5 : Int32) * (5 : Int32))
  if z6 = 0 then
    (own_f0_21 aF aK aS aW aB z6 (0 : Int32))
  else
    (own_f0_21 aF aK aS aW aB z6 (1 : Int32))
set_option maxRecDepth 65536 in
set_option maxHeartbeats 40000000 in
theorem rm0 (l : Launch) (Z : State) (a0 : Array Value) (hw : ∀ d ∈ tables_1, d.before a0 Z = true) (ws : List Jvm.Cond) (p0 : Int32) (aF : Addr) (aK : Addr) (aS : Addr) (aW : Addr) (aB : Addr) (h0 : Heap) (n0 : Nat) (Z0 : n0 ≤ h0.size) (hG : own_St Z h0 aF aK aS aW aB) :
    MetFree l x (head1 (Jvm.Cond.code x code maxLocals ret :: ws) room_1) (fun a U => a = #[(.int p0)] ∧ Z.Warmed39 U.vm ∧ U.heap = h0) (fun _ _ _ _ _ => True) (fun _ U o U' => ∃ v L, o = .returned v ∧ own_Ql (some (.int (own_f0 p0 aF aK aS aW aB))) n0 v U'.heap L ∧ FrameEnd U o U' L 0 0) := by
  refine MetFree.of_bodySF (plainFor_of_name pn_0) hisR ?_
  intro p e s m args below meth c s₁ Bd hml0 hP hK
  obtain ⟨rfl, hZ, hh⟩ := hP
  have hx := Bd.exec
  have hby := Bd.bytes
  have hml : c.maxLocals = 9 := hml0
  have hown : s.vm.findClass "com/example/shingle/shingle/ParameterSettablePinLaw" = some m.cls := findClass_of_methodNamed Bd.named
  have hnm := (name_of_methodNamed Bd.named Bd.method).1
  have X0 : Stand p l e room_1 s m #[(.int p0)] below meth c s₁ [] 0 0 := Stand.of_body Bd
  have e0 : s₁.heap = h0 := by rw [← hh, Bd.state]; rfl
  have N0 := Fr.nil n0
  refine own_enter (ef_0 m p0) ?_
  show own_Goes p.tables e below (s₁.setTop (mkF m 0 #[.val (.int p0), .unset, .unset, .unset, .unset, .unset, .unset, .unset, .unset] [])) (own_P s (own_Ql (some (.int (own_f0 p0 aF aK aS aW aB))) n0) 0 0)
  refine own_step (fun _ => XS.iloadN X0.here hx rfl (hb hby at_0) rfl) ?_
  show own_Goes p.tables e below (s₁.setTop (mkF m 1 #[.val (.int p0), .unset, .unset, .unset, .unset, .unset, .unset, .unset, .unset] [(.int p0)])) _
  refine own_step (X0.ldcInt hx hown (mvT hZ (hw _ (List.mem_of_getElem? (i := 0) rfl))) (g := (mkF m 1 #[.val (.int p0), .unset, .unset, .unset, .unset, .unset, .unset, .unset, .unset] [(.int p0)])) rfl (hb hby at_1)) ?_
  show own_Goes p.tables e below (s₁.setTop (mkF m 3 #[.val (.int p0), .unset, .unset, .unset, .unset, .unset, .unset, .unset, .unset] [(.int (2147483647 : Int32)), (.int p0)])) _
  refine own_step (fun _ => XS.iand X0.here hx rfl (hb hby at_3) rfl) ?_
  show own_Goes p.tables e below (s₁.setTop (mkF m 4 #[.val (.int p0), .unset, .unset, .unset, .unset, .unset, .unset, .unset, .unset] [(.int (p0 &&& (2147483647 : Int32)))])) _
  refine own_step (fun _ => XS.iconst X0.here hx rfl (hb hby at_4)) ?_
  show own_Goes p.tables e below (s₁.setTop (mkF m 5 #[.val (.int p0), .unset, .unset, .unset, .unset, .unset, .unset, .unset, .unset] [(.int (5 : Int32)), (.int (p0 &&& (2147483647 : Int32)))])) _
  refine own_step (fun _ => XS.irem X0.here hx rfl (hb hby at_5) rfl (by decide)) ?_
  show own_Goes p.tables e below (s₁.setTop (mkF m 6 #[.val (.int p0), .unset, .unset, .unset, .unset, .unset, .unset, .unset, .unset] [(.int ((p0 &&& (2147483647 : Int32)) - (p0 &&& (2147483647 : Int32)) / (5 : Int32) * (5 : Int32)))])) _
  obtain ⟨z6, hz6⟩ : ∃ z : Int32, z = ((p0 &&& (2147483647 : Int32)) - (p0 &&& (2147483647 : Int32)) / (5 : Int32) * (5 : Int32)) := ⟨_, rfl⟩
  refine own_step (fun _ => XS.istoreN X0.here hx rfl (hb hby at_6) rfl (l' := #[.val (.int p0), .val (.int z6), .unset, .unset, .unset, .unset, .unset, .unset, .unset]) (by subst hz6; rfl)) ?_
  show own_Goes p.tables e below (s₁.setTop (mkF m 7 #[.val (.int p0), .val (.int z6), .unset, .unset, .unset, .unset, .unset, .unset, .unset] [])) _
  refine own_step (fun _ => XS.iloadN X0.here hx rfl (hb hby at_7) rfl) ?_
  show own_Goes p.tables e below (s₁.setTop (mkF m 8 #[.val (.int p0), .val (.int z6), .unset, .unset, .unset, .unset, .unset, .unset, .unset] [(.int z6)])) _
  obtain ⟨_, _, ⟨T1, L1, k1, n1⟩, -, X1, ⟨Lc1, hQ1, l1, y1, z1⟩, st1⟩ := Jvm.LawKit.callS X0 hx (y := (⟨"com/example/shingle/shingle/ParameterSettablePinLaw", "pick", "(I)Lcom/example/shingle/shingle/Signature$Parameter;"⟩ : MethodName)) hown (mvT hZ (hw _ (List.mem_of_getElem? (i := 1) rfl))) (mvT hZ (hw _ (List.mem_of_getElem? (i := 2) rfl))) (mvT hZ (hw _ (List.mem_of_getElem? (i := 3) rfl))) (mvT hZ (hw _ (List.mem_of_getElem? (i := 4) rfl))) (by decide) (backOf (W := 0) (rm1 l Z a0 hw [] z6 aF aK aS aW aB h0 n0 Z0 hG) hZ (hw _ (List.mem_of_getElem? (i := 4) rfl)) (hw _ (List.mem_of_getElem? (i := 3) rfl)) (by decide) (by decide)) (g := (mkF m 8 #[.val (.int p0), .val (.int z6), .unset, .unset, .unset, .unset, .unset, .unset, .unset] [(.int z6)])) rfl (by rw [hml]; rfl) (argsL := [(.int z6)]) (rest := []) (lenOf pd_0_0 rfl) rfl (by show 2 * 0 + _ ≤ _; exact Nat.le_of_eq rfl) (hb hby at_8) (fun _ _ => ⟨rfl, e0, (by decide : 0 + 0 ≤ _), (by decide : 0 + 0 ≤ _)⟩)
  dsimp only [Pt.U, Pt.locs, Pt.cells, Pt.slots] at X1 l1 y1 z1 st1 hQ1
  subst l1 y1 z1
  obtain ⟨rfl, rfl, e1⟩ := hQ1
  have X1 : Stand p l e room_1 s m #[(.int p0)] below meth c T1 [] 0 0 := own_flat X1
  refine own_step (st1) ?_
  show own_Goes p.tables e below (T1.setTop (mkF m 11 #[.val (.int p0), .val (.int z6), .unset, .unset, .unset, .unset, .unset, .unset, .unset] [(.ref (own_f1 z6 aF aK aS aW aB))])) _
  refine own_step (fun _ => XS.astoreN X1.here hx rfl (hb hby at_11) rfl rfl (l' := #[.val (.int p0), .val (.int z6), .val (.ref (own_f1 z6 aF aK aS aW aB)), .unset, .unset, .unset, .unset, .unset, .unset]) rfl) ?_
  show own_Goes p.tables e below (T1.setTop (mkF m 12 #[.val (.int p0), .val (.int z6), .val (.ref (own_f1 z6 aF aK aS aW aB)), .unset, .unset, .unset, .unset, .unset, .unset] [])) _
  refine own_step (fun _ => XS.iloadN X1.here hx rfl (hb hby at_12) rfl) ?_
  show own_Goes p.tables e below (T1.setTop (mkF m 13 #[.val (.int p0), .val (.int z6), .val (.ref (own_f1 z6 aF aK aS aW aB)), .unset, .unset, .unset, .unset, .unset, .unset] [(.int z6)])) _
  have J21 : ∀ (T_21 : State) (X_21 : Stand p l e room_1 s m #[(.int p0)] below meth c T_21 [] 0 0) (e_21 : T_21.heap = h0) (v21_t0 : Int32), own_Goes p.tables e below (T_21.setTop (mkF m 21 #[.val (.int p0), .val (.int z6), .val (.ref (own_f1 z6 aF aK aS aW aB)), .unset, .unset, .unset, .unset, .unset, .unset] [(.int v21_t0)])) (own_P s (own_Ql (some (.int (own_f0_21 aF aK aS aW aB z6 v21_t0))) n0) 0 0) := by
    intro T_21 X_21 e_21 v21_t0
    refine own_step (fun _ => XS.istoreN X_21.here hx rfl (hb hby at_21) rfl (l' := #[.val (.int p0), .val (.int z6), .val (.ref (own_f1 z6 aF aK aS aW aB)), .val (.int v21_t0), .unset, .unset, .unset, .unset, .unset]) rfl) ?_
    show own_Goes p.tables e below (T_21.setTop (mkF m 22 #[.val (.int p0), .val (.int z6), .val (.ref (own_f1 z6 aF aK aS aW aB)), .val (.int v21_t0), .unset, .unset, .unset, .unset, .unset] [])) _
    refine own_step (fun _ => XS.aloadN X_21.here hx rfl (hb hby at_22) rfl rfl) ?_
    show own_Goes p.tables e below (T_21.setTop (mkF m 23 #[.val (.int p0), .val (.int z6), .val (.ref (own_f1 z6 aF aK aS aW aB)), .val (.int v21_t0), .unset, .unset, .unset, .unset, .unset] [(.ref (own_f1 z6 aF aK aS aW aB))])) _
    obtain ⟨cq2, kq2, q2a, q2b, q2c⟩ := isOf hZ e_21 (own_exa z6 hG.2).1
    obtain ⟨_, _, ⟨T2, L2, k2, n2⟩, -, X2, ⟨Lc2, hQ2, l2, y2, z2⟩, st2⟩ := X_21.virtualBack hx (y := (⟨"com/example/shingle/shingle/Signature$Parameter", "settable", "()Z"⟩ : MethodName)) (z := (⟨"com/example/shingle/shingle/Signature$Parameter", "settable", "()Z"⟩ : MethodName)) hown (mvT hZ (hw _ (List.mem_of_getElem? (i := 8) rfl))) (mvT hZ (hw _ (List.mem_of_getElem? (i := 9) rfl))) (notFace_of_selects (args := #[]) (mvT hZ (hw _ (List.mem_of_getElem? (i := 11) rfl)))) (mvT hZ (hw _ (List.mem_of_getElem? (i := 11) rfl))) (mvT hZ (hw _ (List.mem_of_getElem? (i := 10) rfl))) (by decide) (backOf (W := 0) (rm2 l Z a0 hw [] (own_f1 z6 aF aK aS aW aB) aF aK aS aW aB (own_mn z6) (own_mx z6) h0 n0 Z0 (own_exa z6 hG.2).2.1 (own_exa z6 hG.2).2.2 hG) hZ (hw _ (List.mem_of_getElem? (i := 12) rfl)) (hw _ (List.mem_of_getElem? (i := 6) rfl)) (by decide) (by decide)) q2a q2c (g := (mkF m 23 #[.val (.int p0), .val (.int z6), .val (.ref (own_f1 z6 aF aK aS aW aB)), .val (.int v21_t0), .unset, .unset, .unset, .unset, .unset] [(.ref (own_f1 z6 aF aK aS aW aB))])) rfl (by rw [hml]; rfl) (Steps.refl _) (argsL := []) (rest := []) (lenOf pd_0_1 rfl) rfl (by show 2 * 0 + _ ≤ _; exact Nat.le_of_eq rfl) (hb hby at_23) (fun _ _ => ⟨rfl, e_21, (by decide : 0 + 0 ≤ _), (by decide : 0 + 0 ≤ _)⟩)
    dsimp only [Pt.U, Pt.locs, Pt.cells, Pt.slots] at X2 l2 y2 z2 st2 hQ2
    subst l2 y2 z2
    obtain ⟨rfl, rfl, e2⟩ := hQ2
    have X2 : Stand p l e room_1 s m #[(.int p0)] below meth c T2 [] 0 0 := own_flat X2
    refine own_step (fun _ k => st2.trans k) ?_
    show own_Goes p.tables e below (T2.setTop (mkF m 26 #[.val (.int p0), .val (.int z6), .val (.ref (own_f1 z6 aF aK aS aW aB)), .val (.int v21_t0), .unset, .unset, .unset, .unset, .unset] [(.int (own_f2 (own_mn z6) (own_mx z6) aF aK aS aW aB))])) _
    obtain ⟨z26, hz26⟩ : ∃ z : Int32, z = (own_f2 (own_mn z6) (own_mx z6) aF aK aS aW aB) := ⟨_, rfl⟩
    refine own_step (fun _ => XS.istore X2.here hx rfl (hb hby at_26) rfl (l' := #[.val (.int p0), .val (.int z6), .val (.ref (own_f1 z6 aF aK aS aW aB)), .val (.int v21_t0), .val (.int z26), .unset, .unset, .unset, .unset]) (by subst hz26; rfl)) ?_
    show own_Goes p.tables e below (T2.setTop (mkF m 28 #[.val (.int p0), .val (.int z6), .val (.ref (own_f1 z6 aF aK aS aW aB)), .val (.int v21_t0), .val (.int z26), .unset, .unset, .unset, .unset] [])) _
    refine own_step (fun _ => XS.aloadN X2.here hx rfl (hb hby at_28) rfl rfl) ?_
    show own_Goes p.tables e below (T2.setTop (mkF m 29 #[.val (.int p0), .val (.int z6), .val (.ref (own_f1 z6 aF aK aS aW aB)), .val (.int v21_t0), .val (.int z26), .unset, .unset, .unset, .unset] [(.ref (own_f1 z6 aF aK aS aW aB))])) _
    obtain ⟨cq3, kq3, q3a, q3b, q3c⟩ := isOf hZ e2 (own_exa z6 hG.2).1
    obtain ⟨_, _, ⟨T3, L3, k3, n3⟩, -, X3, ⟨Lc3, hQ3, l3, y3, z3⟩, st3⟩ := X2.virtualBack hx (y := (⟨"com/example/shingle/shingle/Signature$Parameter", "min", "()J"⟩ : MethodName)) (z := (⟨"com/example/shingle/shingle/Signature$Parameter", "min", "()J"⟩ : MethodName)) hown (mvT hZ (hw _ (List.mem_of_getElem? (i := 17) rfl))) (mvT hZ (hw _ (List.mem_of_getElem? (i := 18) rfl))) (notFace_of_selects (args := #[]) (mvT hZ (hw _ (List.mem_of_getElem? (i := 20) rfl)))) (mvT hZ (hw _ (List.mem_of_getElem? (i := 20) rfl))) (mvT hZ (hw _ (List.mem_of_getElem? (i := 19) rfl))) (by decide) (backOf (W := 0) (rm3 l Z a0 hw [] (own_f1 z6 aF aK aS aW aB) aF aK aS aW aB (own_mn z6) h0 n0 Z0 (own_exa z6 hG.2).2.1 hG) hZ (hw _ (List.mem_of_getElem? (i := 21) rfl)) (hw _ (List.mem_of_getElem? (i := 6) rfl)) (by decide) (by decide)) q3a q3c (g := (mkF m 29 #[.val (.int p0), .val (.int z6), .val (.ref (own_f1 z6 aF aK aS aW aB)), .val (.int v21_t0), .val (.int z26), .unset, .unset, .unset, .unset] [(.ref (own_f1 z6 aF aK aS aW aB))])) rfl (by rw [hml]; rfl) (Steps.refl _) (argsL := []) (rest := []) (lenOf pd_0_2 rfl) rfl (by show 2 * 0 + _ ≤ _; exact Nat.le_of_eq rfl) (hb hby at_29) (fun _ _ => ⟨rfl, e2, (by decide : 0 + 0 ≤ _), (by decide : 0 + 0 ≤ _)⟩)
    dsimp only [Pt.U, Pt.locs, Pt.cells, Pt.slots] at X3 l3 y3 z3 st3 hQ3
    subst l3 y3 z3
    obtain ⟨rfl, rfl, e3⟩ := hQ3
    have X3 : Stand p l e room_1 s m #[(.int p0)] below meth c T3 [] 0 0 := own_flat X3
    refine own_step (fun _ k => st3.trans k) ?_
    show own_Goes p.tables e below (T3.setTop (mkF m 32 #[.val (.int p0), .val (.int z6), .val (.ref (own_f1 z6 aF aK aS aW aB)), .val (.int v21_t0), .val (.int z26), .unset, .unset, .unset, .unset] [(.long (own_f3 (own_mn z6) aF aK aS aW aB))])) _
    refine own_step (fun _ => XS.lstore X3.here hx rfl (hb hby at_32) rfl (l' := #[.val (.int p0), .val (.int z6), .val (.ref (own_f1 z6 aF aK aS aW aB)), .val (.int v21_t0), .val (.int z26), .val (.long (own_f3 (own_mn z6) aF aK aS aW aB)), .second, .unset, .unset]) rfl) ?_
    show own_Goes p.tables e below (T3.setTop (mkF m 34 #[.val (.int p0), .val (.int z6), .val (.ref (own_f1 z6 aF aK aS aW aB)), .val (.int v21_t0), .val (.int z26), .val (.long (own_f3 (own_mn z6) aF aK aS aW aB)), .second, .unset, .unset] [])) _
    refine own_step (fun _ => XS.aloadN X3.here hx rfl (hb hby at_34) rfl rfl) ?_
    show own_Goes p.tables e below (T3.setTop (mkF m 35 #[.val (.int p0), .val (.int z6), .val (.ref (own_f1 z6 aF aK aS aW aB)), .val (.int v21_t0), .val (.int z26), .val (.long (own_f3 (own_mn z6) aF aK aS aW aB)), .second, .unset, .unset] [(.ref (own_f1 z6 aF aK aS aW aB))])) _
    obtain ⟨cq4, kq4, q4a, q4b, q4c⟩ := isOf hZ e3 (own_exa z6 hG.2).1
    obtain ⟨_, _, ⟨T4, L4, k4, n4⟩, -, X4, ⟨Lc4, hQ4, l4, y4, z4⟩, st4⟩ := X3.virtualBack hx (y := (⟨"com/example/shingle/shingle/Signature$Parameter", "max", "()J"⟩ : MethodName)) (z := (⟨"com/example/shingle/shingle/Signature$Parameter", "max", "()J"⟩ : MethodName)) hown (mvT hZ (hw _ (List.mem_of_getElem? (i := 22) rfl))) (mvT hZ (hw _ (List.mem_of_getElem? (i := 23) rfl))) (notFace_of_selects (args := #[]) (mvT hZ (hw _ (List.mem_of_getElem? (i := 25) rfl)))) (mvT hZ (hw _ (List.mem_of_getElem? (i := 25) rfl))) (mvT hZ (hw _ (List.mem_of_getElem? (i := 24) rfl))) (by decide) (backOf (W := 0) (rm4 l Z a0 hw [] (own_f1 z6 aF aK aS aW aB) aF aK aS aW aB (own_mx z6) h0 n0 Z0 (own_exa z6 hG.2).2.2 hG) hZ (hw _ (List.mem_of_getElem? (i := 26) rfl)) (hw _ (List.mem_of_getElem? (i := 6) rfl)) (by decide) (by decide)) q4a q4c (g := (mkF m 35 #[.val (.int p0), .val (.int z6), .val (.ref (own_f1 z6 aF aK aS aW aB)), .val (.int v21_t0), .val (.int z26), .val (.long (own_f3 (own_mn z6) aF aK aS aW aB)), .second, .unset, .unset] [(.ref (own_f1 z6 aF aK aS aW aB))])) rfl (by rw [hml]; rfl) (Steps.refl _) (argsL := []) (rest := []) (lenOf pd_0_2 rfl) rfl (by show 2 * 0 + _ ≤ _; exact Nat.le_of_eq rfl) (hb hby at_35) (fun _ _ => ⟨rfl, e3, (by decide : 0 + 0 ≤ _), (by decide : 0 + 0 ≤ _)⟩)
    dsimp only [Pt.U, Pt.locs, Pt.cells, Pt.slots] at X4 l4 y4 z4 st4 hQ4
    subst l4 y4 z4
    obtain ⟨rfl, rfl, e4⟩ := hQ4
    have X4 : Stand p l e room_1 s m #[(.int p0)] below meth c T4 [] 0 0 := own_flat X4
    refine own_step (fun _ k => st4.trans k) ?_
    show own_Goes p.tables e below (T4.setTop (mkF m 38 #[.val (.int p0), .val (.int z6), .val (.ref (own_f1 z6 aF aK aS aW aB)), .val (.int v21_t0), .val (.int z26), .val (.long (own_f3 (own_mn z6) aF aK aS aW aB)), .second, .unset, .unset] [(.long (own_f4 (own_mx z6) aF aK aS aW aB))])) _
    refine own_step (fun _ => XS.lstore X4.here hx rfl (hb hby at_38) rfl (l' := #[.val (.int p0), .val (.int z6), .val (.ref (own_f1 z6 aF aK aS aW aB)), .val (.int v21_t0), .val (.int z26), .val (.long (own_f3 (own_mn z6) aF aK aS aW aB)), .second, .val (.long (own_f4 (own_mx z6) aF aK aS aW aB)), .second]) rfl) ?_
    show own_Goes p.tables e below (T4.setTop (mkF m 40 #[.val (.int p0), .val (.int z6), .val (.ref (own_f1 z6 aF aK aS aW aB)), .val (.int v21_t0), .val (.int z26), .val (.long (own_f3 (own_mn z6) aF aK aS aW aB)), .second, .val (.long (own_f4 (own_mx z6) aF aK aS aW aB)), .second] [])) _
    refine own_step (fun _ => XS.iload X4.here hx rfl (hb hby at_40) rfl) ?_
    show own_Goes p.tables e below (T4.setTop (mkF m 42 #[.val (.int p0), .val (.int z6), .val (.ref (own_f1 z6 aF aK aS aW aB)), .val (.int v21_t0), .val (.int z26), .val (.long (own_f3 (own_mn z6) aF aK aS aW aB)), .second, .val (.long (own_f4 (own_mx z6) aF aK aS aW aB)), .second] [(.int z26)])) _
    refine own_step (fun _ => XS.iloadN X4.here hx rfl (hb hby at_42) rfl) ?_
    show own_Goes p.tables e below (T4.setTop (mkF m 43 #[.val (.int p0), .val (.int z6), .val (.ref (own_f1 z6 aF aK aS aW aB)), .val (.int v21_t0), .val (.int z26), .val (.long (own_f3 (own_mn z6) aF aK aS aW aB)), .second, .val (.long (own_f4 (own_mx z6) aF aK aS aW aB)), .second] [(.int v21_t0), (.int z26)])) _
    have J76 : ∀ (T_76 : State) (X_76 : Stand p l e room_1 s m #[(.int p0)] below meth c T_76 [] 0 0) (e_76 : T_76.heap = h0), own_Goes p.tables e below (T_76.setTop (mkF m 76 #[.val (.int p0), .val (.int z6), .val (.ref (own_f1 z6 aF aK aS aW aB)), .val (.int v21_t0), .val (.int z26), .val (.long (own_f3 (own_mn z6) aF aK aS aW aB)), .second, .val (.long (own_f4 (own_mx z6) aF aK aS aW aB)), .second] [])) (own_P s (own_Ql (some (.int (own_f0_76))) n0) 0 0) := by
      intro T_76 X_76 e_76
      refine own_step (fun _ => XS.iconst X_76.here hx rfl (hb hby at_76)) ?_
      show own_Goes p.tables e below (T_76.setTop (mkF m 77 #[.val (.int p0), .val (.int z6), .val (.ref (own_f1 z6 aF aK aS aW aB)), .val (.int v21_t0), .val (.int z26), .val (.long (own_f3 (own_mn z6) aF aK aS aW aB)), .second, .val (.long (own_f4 (own_mx z6) aF aK aS aW aB)), .second] [(.int (0 : Int32))])) _
      have hv : (own_f0_76) = (0 : Int32) := by exact rfl
      rw [hv]
      exact own_retN X_76 hx (t := .boolean) Bd.returns (by simp) (hb hby at_77) (BodyLoose.notSynchronized Bd) (w := (0 : Int32)) rfl ⟨rfl, N0⟩ (by decide) (by decide)
    by_cases hc43 : z26 = v21_t0
    · refine own_step (fun _ => XS.icmpNo X4.here hx rfl (hb hby at_43) rfl (Jvm.Free.XT.ii_ne_f hc43)) ?_
      show own_Goes p.tables e below (T4.setTop (mkF m 46 #[.val (.int p0), .val (.int z6), .val (.ref (own_f1 z6 aF aK aS aW aB)), .val (.int v21_t0), .val (.int z26), .val (.long (own_f3 (own_mn z6) aF aK aS aW aB)), .second, .val (.long (own_f4 (own_mx z6) aF aK aS aW aB)), .second] [])) _
      refine own_step (fun _ => XS.iload X4.here hx rfl (hb hby at_46) rfl) ?_
      show own_Goes p.tables e below (T4.setTop (mkF m 48 #[.val (.int p0), .val (.int z6), .val (.ref (own_f1 z6 aF aK aS aW aB)), .val (.int v21_t0), .val (.int z26), .val (.long (own_f3 (own_mn z6) aF aK aS aW aB)), .second, .val (.long (own_f4 (own_mx z6) aF aK aS aW aB)), .second] [(.int z26)])) _
      refine own_step (fun _ => XS.lload X4.here hx rfl (hb hby at_48) rfl) ?_
      show own_Goes p.tables e below (T4.setTop (mkF m 50 #[.val (.int p0), .val (.int z6), .val (.ref (own_f1 z6 aF aK aS aW aB)), .val (.int v21_t0), .val (.int z26), .val (.long (own_f3 (own_mn z6) aF aK aS aW aB)), .second, .val (.long (own_f4 (own_mx z6) aF aK aS aW aB)), .second] [(.long (own_f3 (own_mn z6) aF aK aS aW aB)), (.int z26)])) _
      refine own_step (fun _ => XS.lload X4.here hx rfl (hb hby at_50) rfl) ?_
      show own_Goes p.tables e below (T4.setTop (mkF m 52 #[.val (.int p0), .val (.int z6), .val (.ref (own_f1 z6 aF aK aS aW aB)), .val (.int v21_t0), .val (.int z26), .val (.long (own_f3 (own_mn z6) aF aK aS aW aB)), .second, .val (.long (own_f4 (own_mx z6) aF aK aS aW aB)), .second] [(.long (own_f4 (own_mx z6) aF aK aS aW aB)), (.long (own_f3 (own_mn z6) aF aK aS aW aB)), (.int z26)])) _
      refine own_step (fun _ => Jvm.Free.XT.lcmp X4.here hx rfl (hb hby at_52) rfl) ?_
      show own_Goes p.tables e below (T4.setTop (mkF m 53 #[.val (.int p0), .val (.int z6), .val (.ref (own_f1 z6 aF aK aS aW aB)), .val (.int v21_t0), .val (.int z26), .val (.long (own_f3 (own_mn z6) aF aK aS aW aB)), .second, .val (.long (own_f4 (own_mx z6) aF aK aS aW aB)), .second] [(.int (Jvm.Free.XT.cmpL (own_f3 (own_mn z6) aF aK aS aW aB) (own_f4 (own_mx z6) aF aK aS aW aB))), (.int z26)])) _
      have J61 : ∀ (T_61 : State) (X_61 : Stand p l e room_1 s m #[(.int p0)] below meth c T_61 [] 0 0) (e_61 : T_61.heap = h0) (v61_t0 : Int32), own_Goes p.tables e below (T_61.setTop (mkF m 61 #[.val (.int p0), .val (.int z6), .val (.ref (own_f1 z6 aF aK aS aW aB)), .val (.int v21_t0), .val (.int z26), .val (.long (own_f3 (own_mn z6) aF aK aS aW aB)), .second, .val (.long (own_f4 (own_mx z6) aF aK aS aW aB)), .second] [(.int v61_t0), (.int z26)])) (own_P s (own_Ql (some (.int (own_f0_61 aF aK aS aW aB z6 z26 v61_t0))) n0) 0 0) := by
        intro T_61 X_61 e_61 v61_t0
        by_cases hc61 : z26 = v61_t0
        · refine own_step (fun _ => XS.icmpNo X_61.here hx rfl (hb hby at_61) rfl (Jvm.Free.XT.ii_ne_f hc61)) ?_
          show own_Goes p.tables e below (T_61.setTop (mkF m 64 #[.val (.int p0), .val (.int z6), .val (.ref (own_f1 z6 aF aK aS aW aB)), .val (.int v21_t0), .val (.int z26), .val (.long (own_f3 (own_mn z6) aF aK aS aW aB)), .second, .val (.long (own_f4 (own_mx z6) aF aK aS aW aB)), .second] [])) _
          refine own_step (fun _ => XS.lload X_61.here hx rfl (hb hby at_64) rfl) ?_
          show own_Goes p.tables e below (T_61.setTop (mkF m 66 #[.val (.int p0), .val (.int z6), .val (.ref (own_f1 z6 aF aK aS aW aB)), .val (.int v21_t0), .val (.int z26), .val (.long (own_f3 (own_mn z6) aF aK aS aW aB)), .second, .val (.long (own_f4 (own_mx z6) aF aK aS aW aB)), .second] [(.long (own_f3 (own_mn z6) aF aK aS aW aB))])) _
          refine own_step (fun _ => XS.lload X_61.here hx rfl (hb hby at_66) rfl) ?_
          show own_Goes p.tables e below (T_61.setTop (mkF m 68 #[.val (.int p0), .val (.int z6), .val (.ref (own_f1 z6 aF aK aS aW aB)), .val (.int v21_t0), .val (.int z26), .val (.long (own_f3 (own_mn z6) aF aK aS aW aB)), .second, .val (.long (own_f4 (own_mx z6) aF aK aS aW aB)), .second] [(.long (own_f4 (own_mx z6) aF aK aS aW aB)), (.long (own_f3 (own_mn z6) aF aK aS aW aB))])) _
          refine own_step (fun _ => Jvm.Free.XT.lcmp X_61.here hx rfl (hb hby at_68) rfl) ?_
          show own_Goes p.tables e below (T_61.setTop (mkF m 69 #[.val (.int p0), .val (.int z6), .val (.ref (own_f1 z6 aF aK aS aW aB)), .val (.int v21_t0), .val (.int z26), .val (.long (own_f3 (own_mn z6) aF aK aS aW aB)), .second, .val (.long (own_f4 (own_mx z6) aF aK aS aW aB)), .second] [(.int (Jvm.Free.XT.cmpL (own_f3 (own_mn z6) aF aK aS aW aB) (own_f4 (own_mx z6) aF aK aS aW aB)))])) _
          by_cases hc69 : (own_f4 (own_mx z6) aF aK aS aW aB) < (own_f3 (own_mn z6) aF aK aS aW aB)
          · refine own_step (fun _ => XS.ifYes X_61.here hx rfl (pc0 := 69) (pc' := 76) rfl (hb hby at_69) rfl (Jvm.Free.XT.ll_gt_t hc69) (by decide) (by decide)) ?_
            show own_Goes p.tables e below (T_61.setTop (mkF m 76 #[.val (.int p0), .val (.int z6), .val (.ref (own_f1 z6 aF aK aS aW aB)), .val (.int v21_t0), .val (.int z26), .val (.long (own_f3 (own_mn z6) aF aK aS aW aB)), .second, .val (.long (own_f4 (own_mx z6) aF aK aS aW aB)), .second] [])) _
            have hv : (own_f0_61 aF aK aS aW aB z6 z26 v61_t0) = (own_f0_76) := by exact ((if_pos hc61)).trans (if_pos hc69)
            rw [hv]
            exact J76 T_61 X_61 e_61
          · refine own_step (fun _ => XS.ifNo X_61.here hx rfl (hb hby at_69) rfl (Jvm.Free.XT.ll_gt_f hc69)) ?_
            show own_Goes p.tables e below (T_61.setTop (mkF m 72 #[.val (.int p0), .val (.int z6), .val (.ref (own_f1 z6 aF aK aS aW aB)), .val (.int v21_t0), .val (.int z26), .val (.long (own_f3 (own_mn z6) aF aK aS aW aB)), .second, .val (.long (own_f4 (own_mx z6) aF aK aS aW aB)), .second] [])) _
            refine own_step (fun _ => XS.iconst X_61.here hx rfl (hb hby at_72)) ?_
            show own_Goes p.tables e below (T_61.setTop (mkF m 73 #[.val (.int p0), .val (.int z6), .val (.ref (own_f1 z6 aF aK aS aW aB)), .val (.int v21_t0), .val (.int z26), .val (.long (own_f3 (own_mn z6) aF aK aS aW aB)), .second, .val (.long (own_f4 (own_mx z6) aF aK aS aW aB)), .second] [(.int (1 : Int32))])) _
            refine own_step (fun _ => XS.goto X_61.here hx rfl (pc0 := 73) (pc' := 77) rfl (hb hby at_73) (by decide) (by decide)) ?_
            show own_Goes p.tables e below (T_61.setTop (mkF m 77 #[.val (.int p0), .val (.int z6), .val (.ref (own_f1 z6 aF aK aS aW aB)), .val (.int v21_t0), .val (.int z26), .val (.long (own_f3 (own_mn z6) aF aK aS aW aB)), .second, .val (.long (own_f4 (own_mx z6) aF aK aS aW aB)), .second] [(.int (1 : Int32))])) _
            have hv : (own_f0_61 aF aK aS aW aB z6 z26 v61_t0) = (1 : Int32) := by exact ((if_pos hc61)).trans (if_neg hc69)
            rw [hv]
            exact own_retN X_61 hx (t := .boolean) Bd.returns (by simp) (hb hby at_77) (BodyLoose.notSynchronized Bd) (w := (1 : Int32)) rfl ⟨rfl, N0⟩ (by decide) (by decide)
        · refine own_step (fun _ => XS.icmpYes X_61.here hx rfl (pc0 := 61) (pc' := 76) rfl (hb hby at_61) rfl (Jvm.Free.XT.ii_ne_t hc61) (by decide) (by decide)) ?_
          show own_Goes p.tables e below (T_61.setTop (mkF m 76 #[.val (.int p0), .val (.int z6), .val (.ref (own_f1 z6 aF aK aS aW aB)), .val (.int v21_t0), .val (.int z26), .val (.long (own_f3 (own_mn z6) aF aK aS aW aB)), .second, .val (.long (own_f4 (own_mx z6) aF aK aS aW aB)), .second] [])) _
          have hv : (own_f0_61 aF aK aS aW aB z6 z26 v61_t0) = (own_f0_76) := by exact (if_neg hc61)
          rw [hv]
          exact J76 T_61 X_61 e_61
      by_cases hc53 : (own_f3 (own_mn z6) aF aK aS aW aB) = (own_f4 (own_mx z6) aF aK aS aW aB)
      · refine own_step (fun _ => XS.ifYes X4.here hx rfl (pc0 := 53) (pc' := 60) rfl (hb hby at_53) rfl (Jvm.Free.XT.ll_eq_t hc53) (by decide) (by decide)) ?_
        show own_Goes p.tables e below (T4.setTop (mkF m 60 #[.val (.int p0), .val (.int z6), .val (.ref (own_f1 z6 aF aK aS aW aB)), .val (.int v21_t0), .val (.int z26), .val (.long (own_f3 (own_mn z6) aF aK aS aW aB)), .second, .val (.long (own_f4 (own_mx z6) aF aK aS aW aB)), .second] [(.int z26)])) _
        refine own_step (fun _ => XS.iconst X4.here hx rfl (hb hby at_60)) ?_
        show own_Goes p.tables e below (T4.setTop (mkF m 61 #[.val (.int p0), .val (.int z6), .val (.ref (own_f1 z6 aF aK aS aW aB)), .val (.int v21_t0), .val (.int z26), .val (.long (own_f3 (own_mn z6) aF aK aS aW aB)), .second, .val (.long (own_f4 (own_mx z6) aF aK aS aW aB)), .second] [(.int (0 : Int32)), (.int z26)])) _
        have hv : (own_f0_21 aF aK aS aW aB z6 v21_t0) = (own_f0_61 aF aK aS aW aB z6 z26 (0 : Int32)) := by subst hz26; exact ((if_pos hc43)).trans (if_pos hc53)
        rw [hv]
        exact J61 T4 X4 e4 (0 : Int32)
      · refine own_step (fun _ => XS.ifNo X4.here hx rfl (hb hby at_53) rfl (Jvm.Free.XT.ll_eq_f hc53)) ?_
        show own_Goes p.tables e below (T4.setTop (mkF m 56 #[.val (.int p0), .val (.int z6), .val (.ref (own_f1 z6 aF aK aS aW aB)), .val (.int v21_t0), .val (.int z26), .val (.long (own_f3 (own_mn z6) aF aK aS aW aB)), .second, .val (.long (own_f4 (own_mx z6) aF aK aS aW aB)), .second] [(.int z26)])) _
        refine own_step (fun _ => XS.iconst X4.here hx rfl (hb hby at_56)) ?_
        show own_Goes p.tables e below (T4.setTop (mkF m 57 #[.val (.int p0), .val (.int z6), .val (.ref (own_f1 z6 aF aK aS aW aB)), .val (.int v21_t0), .val (.int z26), .val (.long (own_f3 (own_mn z6) aF aK aS aW aB)), .second, .val (.long (own_f4 (own_mx z6) aF aK aS aW aB)), .second] [(.int (1 : Int32)), (.int z26)])) _
        refine own_step (fun _ => XS.goto X4.here hx rfl (pc0 := 57) (pc' := 61) rfl (hb hby at_57) (by decide) (by decide)) ?_
        show own_Goes p.tables e below (T4.setTop (mkF m 61 #[.val (.int p0), .val (.int z6), .val (.ref (own_f1 z6 aF aK aS aW aB)), .val (.int v21_t0), .val (.int z26), .val (.long (own_f3 (own_mn z6) aF aK aS aW aB)), .second, .val (.long (own_f4 (own_mx z6) aF aK aS aW aB)), .second] [(.int (1 : Int32)), (.int z26)])) _
        have hv : (own_f0_21 aF aK aS aW aB z6 v21_t0) = (own_f0_61 aF aK aS aW aB z6 z26 (1 : Int32)) := by subst hz26; exact ((if_pos hc43)).trans (if_neg hc53)
        rw [hv]
        exact J61 T4 X4 e4 (1 : Int32)
    · refine own_step (fun _ => XS.icmpYes X4.here hx rfl (pc0 := 43) (pc' := 76) rfl (hb hby at_43) rfl (Jvm.Free.XT.ii_ne_t hc43) (by decide) (by decide)) ?_
      show own_Goes p.tables e below (T4.setTop (mkF m 76 #[.val (.int p0), .val (.int z6), .val (.ref (own_f1 z6 aF aK aS aW aB)), .val (.int v21_t0), .val (.int z26), .val (.long (own_f3 (own_mn z6) aF aK aS aW aB)), .second, .val (.long (own_f4 (own_mx z6) aF aK aS aW aB)), .second] [])) _
      have hv : (own_f0_21 aF aK aS aW aB z6 v21_t0) = (own_f0_76) := by subst hz26; exact (if_neg hc43)
      rw [hv]
      exact J76 T4 X4 e4
  by_cases hc13 : z6 = 0
  · refine own_step (fun _ => XS.ifYes X1.here hx rfl (pc0 := 13) (pc' := 20) rfl (hb hby at_13) rfl (Jvm.Free.XT.i0_eq_t hc13) (by decide) (by decide)) ?_
    show own_Goes p.tables e below (T1.setTop (mkF m 20 #[.val (.int p0), .val (.int z6), .val (.ref (own_f1 z6 aF aK aS aW aB)), .unset, .unset, .unset, .unset, .unset, .unset] [])) _
    refine own_step (fun _ => XS.iconst X1.here hx rfl (hb hby at_20)) ?_
    show own_Goes p.tables e below (T1.setTop (mkF m 21 #[.val (.int p0), .val (.int z6), .val (.ref (own_f1 z6 aF aK aS aW aB)), .unset, .unset, .unset, .unset, .unset, .unset] [(.int (0 : Int32))])) _
    have hv : (own_f0 p0 aF aK aS aW aB) = (own_f0_21 aF aK aS aW aB z6 (0 : Int32)) := by subst hz6; exact (if_pos hc13)
    rw [hv]
    exact J21 T1 X1 e1 (0 : Int32)
  · refine own_step (fun _ => XS.ifNo X1.here hx rfl (hb hby at_13) rfl (Jvm.Free.XT.i0_eq_f hc13)) ?_
    show own_Goes p.tables e below (T1.setTop (mkF m 16 #[.val (.int p0), .val (.int z6), .val (.ref (own_f1 z6 aF aK aS aW aB)), .unset, .unset, .unset, .unset, .unset, .unset] [])) _
    refine own_step (fun _ => XS.iconst X1.here hx rfl (hb hby at_16)) ?_
    show own_Goes p.tables e below (T1.setTop (mkF m 17 #[.val (.int p0), .val (.int z6), .val (.ref (own_f1 z6 aF aK aS aW aB)), .unset, .unset, .unset, .unset, .unset, .unset] [(.int (1 : Int32))])) _
    refine own_step (fun _ => XS.goto X1.here hx rfl (pc0 := 17) (pc' := 21) rfl (hb hby at_17) (by decide) (by decide)) ?_
    show own_Goes p.tables e below (T1.setTop (mkF m 21 #[.val (.int p0), .val (.int z6), .val (.ref (own_f1 z6 aF aK aS aW aB)), .unset, .unset, .unset, .unset, .unset, .unset] [(.int (1 : Int32))])) _
    have hv : (own_f0 p0 aF aK aS aW aB) = (own_f0_21 aF aK aS aW aB z6 (1 : Int32)) := by subst hz6; exact (if_neg hc13)
    rw [hv]
    exact J21 T1 X1 e1 (1 : Int32)
theorem own_vals (k : Int32) (h : ¬ k = 0) : (own_mn k = 1 ∧ own_mx k = 4096) ∨ (own_mn k = -9223372036854775808 ∧ own_mx k = 9223372036854775807) ∨ (own_mn k = 1 ∧ own_mx k = 64) := by
  unfold own_mn own_mx
  rw [if_neg h, if_neg h]
  by_cases h1 : k = 1
  · rw [if_pos h1, if_pos h1]; exact Or.inl ⟨rfl, rfl⟩
  · rw [if_neg h1, if_neg h1]
    by_cases h2 : k = 2
    · rw [if_pos h2, if_pos h2]; exact Or.inr (Or.inl ⟨rfl, rfl⟩)
    · rw [if_neg h2, if_neg h2]
      by_cases h3 : k = 3
      · rw [if_pos h3, if_pos h3]; exact Or.inr (Or.inr ⟨rfl, rfl⟩)
      · rw [if_neg h3, if_neg h3]; exact Or.inr (Or.inr ⟨rfl, rfl⟩)
theorem own_law (p0 : Int32) (aF aK aS aW aB : Addr) : own_f0 p0 aF aK aS aW aB = 1 := by
  unfold own_f0
  generalize ((p0 &&& (2147483647 : Int32)) - (p0 &&& (2147483647 : Int32)) / (5 : Int32) * (5 : Int32)) = k
  by_cases h : k = 0
  · have e1 : own_mn k = 3 := if_pos h
    have e2 : own_mx k = 3 := if_pos h
    simp only [h, ↓reduceIte]
    rw [h] at e1 e2
    simp only [own_f0_21, own_f0_61, own_f0_76, own_f2, own_f3, own_f4, e1, e2]
    decide
  · simp only [h, ↓reduceIte]
    rcases own_vals k h with ⟨e1, e2⟩ | ⟨e1, e2⟩ | ⟨e1, e2⟩ <;> simp only [own_f0_21, own_f0_61, own_f0_76, own_f2, own_f3, own_f4, e1, e2] <;> decide
set_option maxRecDepth 65536 in
set_option maxHeartbeats 40000000 in
theorem comes_1 {Post : Tables → Env → Array Value → State → Outcome → State → Prop} (hpost : ∀ tb e args s v u, (limb_1_1.after args s (.returned v) u = true ∧ limb_1_2.after args s (.returned v) u = true ∧ True) → FrameEnd s (.returned v) u (Jvm.fieldLocs frame_1_writes args s ++ Jvm.arrayLocs frame_1_arrays args s ++ Jvm.staticLocs frame_1_statics s) 0 0 → Post tb e args s (.returned v) u) :
    ArmFor flags0 classFile x code maxLocals ret World_1 tables_1 room_1 Calls_1 rest_1 Pre_1 Post := by
  intro l hfl _ _ p e ha hc hk s m args below hf hA hF happ hP
  obtain ⟨hcalls, hrest, hpre⟩ := hP
  obtain ⟨-, -, -, hnamed, -, -, -, hat⟩ := (Spec.applies_iff hf).mp happ
  obtain ⟨hg, hn⟩ := and_e (Cond.before_iff.mp (show (Jvm.Cond.and given_1 narrow_1).before args s = true from hpre))
  obtain ⟨g1, g2⟩ := and_e hg
  obtain ⟨w0, rfl⟩ : ∃ w0 : Value, args = #[w0] := by
    have hs : args.size = 1 := by simpa [Cond.value, given_1] using g1
    obtain ⟨L⟩ := args
    match L, hs with
    | [w0], _ => exact ⟨w0, rfl⟩
  have hw := fun d (hd : d ∈ tables_1) => atoms_spec (ws := Jvm.Cond.code x code maxLocals ret :: tables_1) hat d (List.mem_cons_of_mem _ hd)
  obtain ⟨m0, hn⟩ := and_e hn
  obtain ⟨m1, hn⟩ := and_e hn
  obtain ⟨m2, hn⟩ := and_e hn
  obtain ⟨m3, hn⟩ := and_e hn
  obtain ⟨m4, hn⟩ := and_e hn
  obtain ⟨m5, hn⟩ := and_e hn
  obtain ⟨m6, hn⟩ := and_e hn
  obtain ⟨m7, hn⟩ := and_e hn
  obtain ⟨m8, hn⟩ := and_e hn
  obtain ⟨m9, hn⟩ := and_e hn
  obtain ⟨m10, hn⟩ := and_e hn
  obtain ⟨m11, hn⟩ := and_e hn
  obtain ⟨m12, hn⟩ := and_e hn
  obtain ⟨m13, hn⟩ := and_e hn
  have m14 := hn
  obtain ⟨aF, vaF⟩ := exa_v m0
  have iaF := Fld.start (own_foL vaF m1)
  have jaF := Fld.start (own_foL vaF m2)
  obtain ⟨aK, vaK⟩ := exa_v m6
  have iaK := Fld.start (own_foL vaK m7)
  have jaK := Fld.start (own_foL vaK m8)
  obtain ⟨aS, vaS⟩ := exa_v m12
  have iaS := Fld.start (own_foL vaS m13)
  have jaS := Fld.start (own_foL vaS m14)
  obtain ⟨aW, vaW⟩ := exa_v m3
  have iaW := Fld.start (own_foL vaW m4)
  have jaW := Fld.start (own_foL vaW m5)
  obtain ⟨aB, vaB⟩ := exa_v m9
  have iaB := Fld.start (own_foL vaB m10)
  have jaB := Fld.start (own_foL vaB m11)
  have hG : own_St s s.heap aF aK aS aW aB := ⟨⟨Sta.start vaF (Or.inr ⟨(hw _ (List.mem_of_getElem? (i := 6) rfl)), (hw _ (List.mem_of_getElem? (i := 7) rfl))⟩), Sta.start vaK (Or.inr ⟨(hw _ (List.mem_of_getElem? (i := 6) rfl)), (hw _ (List.mem_of_getElem? (i := 30) rfl))⟩), Sta.start vaS (Or.inr ⟨(hw _ (List.mem_of_getElem? (i := 6) rfl)), (hw _ (List.mem_of_getElem? (i := 34) rfl))⟩), Sta.start vaW (Or.inr ⟨(hw _ (List.mem_of_getElem? (i := 6) rfl)), (hw _ (List.mem_of_getElem? (i := 28) rfl))⟩), Sta.start vaB (Or.inr ⟨(hw _ (List.mem_of_getElem? (i := 6) rfl)), (hw _ (List.mem_of_getElem? (i := 32) rfl))⟩), trivial⟩, ⟨Exa.start vaF m0, iaF, jaF⟩, ⟨Exa.start vaK m6, iaK, jaK⟩, ⟨Exa.start vaS m12, iaS, jaS⟩, ⟨Exa.start vaW m3, iaW, jaW⟩, ⟨Exa.start vaB m9, iaB, jaB⟩⟩
  obtain ⟨i0, ei0⟩ := is_v g2
  obtain rfl : w0 = (.int i0) := Option.some.inj ei0
  have hrm := rm0 l s _ hw tables_1 i0 aF aK aS aW aB s.heap s.heap.size (Nat.le_refl _) hG
  rw [own_law i0 aF aK aS aW aB] at hrm
  obtain ⟨n, o, h1, h2, h3, _, L, rfl, ⟨rfl, N⟩, hq⟩ := hrm p e ha hc hk s m _ below hf ((Spec.applies_iff_loose hf).mp happ).1 ⟨rfl, State.Warmed39.refl s, rfl⟩ trivial
  refine ⟨n, _, h1, h2, h3, hpost _ _ _ _ _ _ ⟨Cond.after_iff.mpr rfl, Cond.after_iff.mpr (eq_i res_at (Term.int_eval (1)) rfl), trivial⟩ ⟨hq.1, hq.2.1, (hq.2.2.sift fun y hy => Or.inr (N y hy)).mono (by decide) (by decide)⟩⟩
theorem main_1_1 : Claimed_1_1 := comes_1 fun _ _ _ _ _ _ h hF => ⟨h.1, hF⟩
theorem main_1_2 : Claimed_1_2 := comes_1 fun _ _ _ _ _ _ h hF => ⟨h.2.1, hF⟩
end Jvm.Pilot.@@N@@
namespace Jvm.Pilot.@@N@@
open Jvm Jvm.ClassFile Sem Op Lib Jvm.Free Jvm.Stand Jvm.Pilot.@@N@@.Jvm.D
/-! MADE BY PROGRAM (witnessworld.py) out of the Statement's table words and the real class files: 12 classes; the members and pool entries that the words name. The judged class is class 1, her method 2. -/
namespace start1
open Jvm.ClassFile
def u (s : String) : CpInfo := .utf8 (stringToUtf16 s)
/-- a pool by its gaps: so many unusable entries, then the entry; so many at the end -/
def gap : Nat → List CpInfo → List CpInfo
  | 0, r => r
  | n + 1, r => .unusable :: gap n r
def poolList (es : List (Nat × CpInfo)) (last : Nat) : List CpInfo := es.foldr (fun e r => gap e.1 (e.2 :: r)) (gap last [])
def pool (es : List (Nat × CpInfo)) (last : Nat) : Array CpInfo := ⟨poolList es last⟩
def fileOf (pool : Array CpInfo) (this : Nat) (attrs : Array Attribute := #[]) (ms : Array MethodInfo := #[]) (fl : Nat := 33) (sup : Nat := 0) (ifs : Array Nat := #[]) (fds : Array FieldInfo := #[]) : ClassFile where
  minorVersion := 0
  majorVersion := 65
  constantPool := pool
  accessFlags := fl
  thisClass := this
  superClass := sup
  interfaces := ifs
  fields := fds
  methods := ms
  attributes := attrs
def plain (name : String) (sup : Option ClassId) : Class where
  name := name
  kind := .ordinary
  loader := none
  accessFlags := 33
  super := sup
  interfaces := #[]
  cf := none
  fields := #[]
  methods := #[]
  instanceTypes := #[]
  staticTypes := #[]
  resolved := #[]
  callSites := []
  init := .initialized
  statics := none
  mirror := none

def pool0 : Array CpInfo := pool [(5, u "<init>"), (0, u "()V"), (1, .class_ 10), (1, u "java/lang/Object")] 113

def k0m0 : Method := { name := "<init>", desc := "()V", sig := { parameters := [], returnType := none }, accessFlags := 1, code := none }
/-- java/lang/Object -/
def k0 : Class := { plain "java/lang/Object" none with
  accessFlags := 33
  interfaces := #[]
  cf := some (fileOf pool0 8 #[] #[{ accessFlags := 1, nameIndex := 5, descriptorIndex := 6, attributes := #[] }] 33 0 #[] #[])
  fields := #[]
  methods := #[k0m0]
  instanceTypes := #[]
  staticTypes := #[]
  resolved := Array.replicate 124 none
  statics := none }

def pool1 : Array CpInfo := pool [(2, .class_ 4), (1, u "java/lang/Object"), (0, u "<init>"), (0, u "()V"), (0, .fieldref 8 9), (0, .class_ 10), (0, .nameAndType 11 12), (0, u "com/example/shingle/shingle/Signature$Parameter"), (0, u "FAMILY"), (0, u "Lcom/example/shingle/shingle/Signature$Parameter;"), (0, .fieldref 8 14), (0, .nameAndType 15 12), (0, u "K"), (0, .fieldref 8 17), (0, .nameAndType 18 12), (0, u "SEED"), (0, .fieldref 8 20), (0, .nameAndType 21 12), (0, u "WIDTH"), (0, .fieldref 8 23), (0, .nameAndType 24 12), (0, u "BITS"), (0, .integer 2147483647), (0, .methodref 27 28), (0, .class_ 29), (0, .nameAndType 30 31), (0, u "com/example/shingle/shingle/ParameterSettablePinLaw"), (0, u "pick"), (0, u "(I)Lcom/example/shingle/shingle/Signature$Parameter;"), (0, .methodref 8 33), (0, .nameAndType 34 35), (0, u "settable"), (0, u "()Z"), (0, .methodref 8 37), (0, .nameAndType 38 39), (0, u "min"), (0, u "()J"), (0, .methodref 8 41), (0, .nameAndType 42 39), (0, u "max"), (3, u "law"), (0, u "(I)Z")] 6

def k1m0 : Method := { name := "<init>", desc := "()V", sig := { parameters := [], returnType := none }, accessFlags := 2, code := none }
def k1c1 : Code := { maxStack := 2, maxLocals := 2, code := method_2_code, exceptionTable := #[], attributes := #[] }
def k1m1 : Method := { name := "pick", desc := "(I)Lcom/example/shingle/shingle/Signature$Parameter;", sig := { parameters := [.int], returnType := some (.object "com/example/shingle/shingle/Signature$Parameter") }, accessFlags := 10, code := some k1c1 }
def k1c2 : Code := { maxStack := 5, maxLocals := 9, code := code, exceptionTable := #[], attributes := #[] }
def k1m2 : Method := { name := "law", desc := "(I)Z", sig := { parameters := [.int], returnType := some .boolean }, accessFlags := 9, code := some k1c2 }
/-- com/example/shingle/shingle/ParameterSettablePinLaw -/
def k1 : Class := { plain "com/example/shingle/shingle/ParameterSettablePinLaw" (some 0) with
  accessFlags := 49
  interfaces := #[]
  cf := some (fileOf pool1 27 #[] #[{ accessFlags := 2, nameIndex := 5, descriptorIndex := 6, attributes := #[] }, { accessFlags := 10, nameIndex := 30, descriptorIndex := 31, attributes := #[] }, { accessFlags := 9, nameIndex := 46, descriptorIndex := 47, attributes := #[] }] 49 2 #[] #[])
  fields := #[]
  methods := #[k1m0, k1m1, k1m2]
  instanceTypes := #[]
  staticTypes := #[]
  resolved := Array.replicate 54 none
  statics := none }

def pool2 : Array CpInfo := pool [(1, .class_ 2), (0, u "java/lang/constant/Constable"), (0, .class_ 4), (0, u "java/lang/Object")] 6

/-- java/lang/constant/Constable -/
def k2 : Class := { plain "java/lang/constant/Constable" (some 0) with
  accessFlags := 1537
  interfaces := #[]
  cf := some (fileOf pool2 1 #[] #[] 1537 3 #[] #[])
  fields := #[]
  methods := #[]
  instanceTypes := #[]
  staticTypes := #[]
  resolved := Array.replicate 11 none
  statics := none }

def pool3 : Array CpInfo := pool [(1, .class_ 2), (0, u "java/lang/Comparable"), (0, .class_ 4), (0, u "java/lang/Object")] 7

/-- java/lang/Comparable -/
def k3 : Class := { plain "java/lang/Comparable" (some 0) with
  accessFlags := 1537
  interfaces := #[]
  cf := some (fileOf pool3 1 #[] #[] 1537 3 #[] #[])
  fields := #[]
  methods := #[]
  instanceTypes := #[]
  staticTypes := #[]
  resolved := Array.replicate 12 none
  statics := none }

def pool4 : Array CpInfo := pool [(1, .class_ 2), (0, u "java/io/Serializable"), (0, .class_ 4), (0, u "java/lang/Object")] 2

/-- java/io/Serializable -/
def k4 : Class := { plain "java/io/Serializable" (some 0) with
  accessFlags := 1537
  interfaces := #[]
  cf := some (fileOf pool4 1 #[] #[] 1537 3 #[] #[])
  fields := #[]
  methods := #[]
  instanceTypes := #[]
  staticTypes := #[]
  resolved := Array.replicate 7 none
  statics := none }

def pool5 : Array CpInfo := pool [(2, .class_ 4), (1, u "java/lang/Enum"), (0, u "name"), (0, u "Ljava/lang/String;"), (2, u "ordinal"), (0, u "I"), (1, .class_ 14), (1, u "java/lang/Object"), (4, u "hash"), (86, .class_ 108), (1, u "java/lang/Enum$EnumDesc"), (2, .class_ 112), (0, u "java/lang/constant/Constable"), (0, .class_ 114), (0, u "java/lang/Comparable"), (0, .class_ 116), (0, u "java/io/Serializable")] 87

/-- java/lang/Enum -/
def k5 : Class := { plain "java/lang/Enum" (some 0) with
  accessFlags := 1057
  interfaces := #[2, 3, 4]
  cf := some (fileOf pool5 2 #[.nestMembers #[106]] #[] 1057 12 #[111, 113, 115] #[{ accessFlags := 18, nameIndex := 5, descriptorIndex := 6, attributes := #[] }, { accessFlags := 18, nameIndex := 9, descriptorIndex := 10, attributes := #[] }, { accessFlags := 2, nameIndex := 19, descriptorIndex := 10, attributes := #[] }])
  fields := #[{ name := "name", type := (.object "java/lang/String"), accessFlags := 18, slot := 0, constantValue := 0 }, { name := "ordinal", type := .int, accessFlags := 18, slot := 1, constantValue := 0 }, { name := "hash", type := .int, accessFlags := 2, slot := 2, constantValue := 0 }]
  methods := #[]
  instanceTypes := #[(.object "java/lang/String"), .int, .int]
  staticTypes := #[]
  resolved := Array.replicate 204 none
  statics := none }

def pool6 : Array CpInfo := pool [(1, .class_ 2), (0, u "com/example/shingle/shingle/Signature$Parameter"), (2, u "FAMILY"), (0, u "Lcom/example/shingle/shingle/Signature$Parameter;"), (2, u "K"), (2, u "SEED"), (2, u "WIDTH"), (2, u "BITS"), (2, u "$VALUES"), (0, u "[Lcom/example/shingle/shingle/Signature$Parameter;"), (6, .class_ 31), (1, u "java/lang/Enum"), (8, u "member"), (0, u "Ljava/lang/String;"), (0, .fieldref 1 43), (0, .nameAndType 44 45), (0, u "min"), (0, u "J"), (0, .fieldref 1 47), (0, .nameAndType 48 45), (0, u "max"), (2, u "defaultValue"), (2, u "value"), (0, u "Ljava/util/function/ToLongFunction;"), (2, u "sketcherValue"), (24, u "()J"), (85, u "settable"), (0, u "()Z"), (18, .class_ 190), (0, u "com/example/shingle/shingle/Signature")] 54

def k6c0 : Code := { maxStack := 4, maxLocals := 1, code := prog_30_method_6_code, exceptionTable := #[], attributes := #[] }
def k6m0 : Method := { name := "settable", desc := "()Z", sig := { parameters := [], returnType := some .boolean }, accessFlags := 0, code := some k6c0 }
def k6c1 : Code := { maxStack := 2, maxLocals := 1, code := prog_30_method_7_code, exceptionTable := #[], attributes := #[] }
def k6m1 : Method := { name := "min", desc := "()J", sig := { parameters := [], returnType := some .long }, accessFlags := 0, code := some k6c1 }
def k6c2 : Code := { maxStack := 2, maxLocals := 1, code := prog_30_method_8_code, exceptionTable := #[], attributes := #[] }
def k6m2 : Method := { name := "max", desc := "()J", sig := { parameters := [], returnType := some .long }, accessFlags := 0, code := some k6c2 }
/-- com/example/shingle/shingle/Signature$Parameter -/
def k6 : Class := { plain "com/example/shingle/shingle/Signature$Parameter" (some 5) with
  accessFlags := 16432
  interfaces := #[]
  cf := some (fileOf pool6 1 #[.nestHost 189] #[{ accessFlags := 0, nameIndex := 169, descriptorIndex := 170, attributes := #[] }, { accessFlags := 0, nameIndex := 44, descriptorIndex := 83, attributes := #[] }, { accessFlags := 0, nameIndex := 48, descriptorIndex := 83, attributes := #[] }] 16432 29 #[] #[{ accessFlags := 16409, nameIndex := 5, descriptorIndex := 6, attributes := #[] }, { accessFlags := 16409, nameIndex := 9, descriptorIndex := 6, attributes := #[] }, { accessFlags := 16409, nameIndex := 12, descriptorIndex := 6, attributes := #[] }, { accessFlags := 16409, nameIndex := 15, descriptorIndex := 6, attributes := #[] }, { accessFlags := 16409, nameIndex := 18, descriptorIndex := 6, attributes := #[] }, { accessFlags := 18, nameIndex := 40, descriptorIndex := 41, attributes := #[] }, { accessFlags := 18, nameIndex := 44, descriptorIndex := 45, attributes := #[] }, { accessFlags := 18, nameIndex := 48, descriptorIndex := 45, attributes := #[] }, { accessFlags := 18, nameIndex := 51, descriptorIndex := 45, attributes := #[] }, { accessFlags := 18, nameIndex := 54, descriptorIndex := 55, attributes := #[] }, { accessFlags := 18, nameIndex := 58, descriptorIndex := 55, attributes := #[] }, { accessFlags := 4122, nameIndex := 21, descriptorIndex := 22, attributes := #[] }])
  fields := #[{ name := "FAMILY", type := (.object "com/example/shingle/shingle/Signature$Parameter"), accessFlags := 16409, slot := 0, constantValue := 0 }, { name := "K", type := (.object "com/example/shingle/shingle/Signature$Parameter"), accessFlags := 16409, slot := 1, constantValue := 0 }, { name := "SEED", type := (.object "com/example/shingle/shingle/Signature$Parameter"), accessFlags := 16409, slot := 2, constantValue := 0 }, { name := "WIDTH", type := (.object "com/example/shingle/shingle/Signature$Parameter"), accessFlags := 16409, slot := 3, constantValue := 0 }, { name := "BITS", type := (.object "com/example/shingle/shingle/Signature$Parameter"), accessFlags := 16409, slot := 4, constantValue := 0 }, { name := "member", type := (.object "java/lang/String"), accessFlags := 18, slot := 3, constantValue := 0 }, { name := "min", type := .long, accessFlags := 18, slot := 4, constantValue := 0 }, { name := "max", type := .long, accessFlags := 18, slot := 5, constantValue := 0 }, { name := "defaultValue", type := .long, accessFlags := 18, slot := 6, constantValue := 0 }, { name := "value", type := (.object "java/util/function/ToLongFunction"), accessFlags := 18, slot := 7, constantValue := 0 }, { name := "sketcherValue", type := (.object "java/util/function/ToLongFunction"), accessFlags := 18, slot := 8, constantValue := 0 }, { name := "$VALUES", type := (.array (.object "com/example/shingle/shingle/Signature$Parameter")), accessFlags := 4122, slot := 5, constantValue := 0 }]
  methods := #[k6m0, k6m1, k6m2]
  instanceTypes := #[(.object "java/lang/String"), .int, .int, (.object "java/lang/String"), .long, .long, .long, (.object "java/util/function/ToLongFunction"), (.object "java/util/function/ToLongFunction")]
  staticTypes := #[(.object "com/example/shingle/shingle/Signature$Parameter"), (.object "com/example/shingle/shingle/Signature$Parameter"), (.object "com/example/shingle/shingle/Signature$Parameter"), (.object "com/example/shingle/shingle/Signature$Parameter"), (.object "com/example/shingle/shingle/Signature$Parameter"), (.array (.object "com/example/shingle/shingle/Signature$Parameter"))]
  resolved := Array.replicate 245 none
  statics := some 0 }

def pool7 : Array CpInfo := pool [(1, u "java/lang/Cloneable"), (0, .class_ 1), (0, u "java/lang/Object"), (0, .class_ 3)] 3

/-- java/lang/Cloneable -/
def k7 : Class := { plain "java/lang/Cloneable" (some 0) with
  accessFlags := 1537
  interfaces := #[]
  cf := some (fileOf pool7 2 #[] #[] 1537 4 #[] #[])
  fields := #[]
  methods := #[]
  instanceTypes := #[]
  staticTypes := #[]
  resolved := Array.replicate 8 none
  statics := none }

/-- the primitive byte -/
def k8 : Class := { plain "byte" none with kind := .primitive 'B', accessFlags := 0x411 }
/-- [B -/
def k9 : Class := { plain "[B" (some 0) with kind := .array 8 .byte, interfaces := #[7, 4], accessFlags := 1041 }

/-- the primitive int -/
def k10 : Class := { plain "int" none with kind := .primitive 'I', accessFlags := 0x411 }
/-- [I -/
def k11 : Class := { plain "[I" (some 0) with kind := .array 10 .int, interfaces := #[7, 4], accessFlags := 1041 }

def heap : Heap := #[{ cls := 6, slots := #[.ref 1, .ref 2, .ref 3, .ref 4, .ref 5, .null], vm := .statics 6 },
  { cls := 6, slots := #[.null, .int 0, .int 0, .null, .long 3, .long 3, .long 0, .null, .null], vm := .none },
  { cls := 6, slots := #[.null, .int 1, .int 0, .null, .long 1, .long 4096, .long 0, .null, .null], vm := .none },
  { cls := 6, slots := #[.null, .int 2, .int 0, .null, .long (-9223372036854775808), .long 9223372036854775807, .long 0, .null, .null], vm := .none },
  { cls := 6, slots := #[.null, .int 3, .int 0, .null, .long 1, .long 64, .long 0, .null, .null], vm := .none },
  { cls := 6, slots := #[.null, .int 4, .int 0, .null, .long 1, .long 64, .long 0, .null, .null], vm := .none }]
def classes : Array Class := #[k0, k1, k2, k3, k4, k5, k6, k7, k8, k9, k10, k11]
def interned : List (Array UInt16 × Addr) := []
def slotsUsed : Nat := 51
def theMethod : MethodId := ⟨1, 2⟩
def args0 : Array Value := #[.int 2]
def aboutOver (below : List Frame) : State where
  vm := { classes := classes, interned := interned.toArray }
  heap := heap
  slotsUsed := slotsUsed
  threads := #[{ frames := .invoking theMethod args0 :: below }]
def below0 : List Frame := [.native { method := ⟨0, 0⟩, args := #[] }]
def about1 : State := aboutOver below0
def p0 : Program := .bare "" "" ""
def e0 : Env := launch0.env 0 0 0
theorem w_frames : about1.frames = Frame.invoking theMethod args0 :: below0 := rfl
set_option maxRecDepth 65536 in
theorem w_args : argsFit about1.vm theMethod args0 = true := by decide +kernel
set_option maxRecDepth 65536 in
theorem w_heap : heapFits about1 = true := by decide +kernel
set_option maxRecDepth 65536 in
theorem w_runnable : about1.curStatus? = some .runnable := by decide +kernel
set_option maxRecDepth 65536 in
theorem w_alone : about1.alone = true := by decide +kernel
set_option maxRecDepth 65536 in
theorem w_named : about1.methodNamed? x = some theMethod := by decide +kernel
set_option maxRecDepth 65536 in
theorem w_hears : about1.hears theMethod below0 = true := by decide +kernel
set_option maxRecDepth 65536 in
theorem w_ripe : about1.ripe theMethod args0 below0 = true := by decide +kernel
theorem w_running : about1.status = .running := rfl
set_option maxRecDepth 65536 in
theorem w_room : about1.hasRoom e0.platform room_1 = true :=
  launch0.hasRoom_least _ room_1 (by decide +kernel) (by decide +kernel) (by decide +kernel) (by decide +kernel) (by decide +kernel) (by decide +kernel)
theorem allAtoms_all (ts : List Jvm.Cond) (a : Array Jvm.Value) (st : Jvm.State) : (allAtoms ts).before a st = ts.all (fun c => c.before a st) := by
  induction ts with
  | nil => rfl
  | cons c t ih =>
    show (Jvm.Cond.and c (allAtoms t)).before a st = _
    rw [Jvm.Cond.before_and, ih, List.all_cons]
def words1 : List Jvm.Cond := Jvm.Cond.code x code maxLocals ret :: tables_1
/-- a 'code' word, met by the world's own term for the bytes: nothing is compared byte by byte -/
theorem code_word {y : MethodName} {bytes : ByteArray} {mx : Nat} {rt : Option FieldType} {a : Array Value} {s : State} {m : MethodId} {meth : Method} {c : Code} (h1 : s.methodNamed? y = some m) (h2 : s.vm.method? m = some meth) (h3 : meth.code = some c) (h4 : c.code = bytes)
    (h5 : (c.maxLocals == mx && c.exceptionTable.isEmpty && decide (c.maxStack ≤ mostOperands) && decide (meth.sig.returnType = rt) && !meth.locks && decide (parseMethodDescriptor y.desc = some meth.sig)) = true) : (Jvm.Cond.code y bytes mx rt).before a s = true := by
  simp only [Bool.and_eq_true, beq_iff_eq, Bool.not_eq_true', decide_eq_true_eq] at h5
  obtain ⟨⟨⟨⟨⟨g1, g2⟩, g3⟩, g4⟩, g5⟩, g6⟩ := h5
  simp [Cond.before, Cond.holds, Cond.value, h1, h2, h3, h4, g1, g2, g3, g4, g5, g6]
def isCode : Jvm.Cond → Bool
  | .code _ _ _ _ => true
  | _ => false
theorem all_split {L : List Jvm.Cond} {P : Jvm.Cond → Bool} (h1 : L.all (fun c => isCode c || P c) = true) (h2 : ∀ c ∈ L.filter isCode, P c = true) : L.all P = true := by
  refine List.all_eq_true.mpr fun c hc => ?_
  have h := List.all_eq_true.mp h1 c hc
  rcases Bool.eq_false_or_eq_true (isCode c) with hi | hi
  · exact h2 c (List.mem_filter.mpr ⟨hc, hi⟩)
  · simpa [hi] using h
set_option maxRecDepth 65536 in
theorem w_c0 : (Jvm.Cond.code x code maxLocals ret).before args0 about1 = true := code_word (m := ⟨1, 2⟩) (meth := k1m2) (c := k1c2) (by decide +kernel) rfl rfl rfl (by decide +kernel)
set_option maxRecDepth 65536 in
theorem w_c1 : (Jvm.Cond.code ({ cls := "com/example/shingle/shingle/ParameterSettablePinLaw", name := "pick", desc := "(I)Lcom/example/shingle/shingle/Signature$Parameter;" } : Jvm.MethodName) method_2_code (2 : Nat) (Option.some (Jvm.ClassFile.FieldType.object "com/example/shingle/shingle/Signature$Parameter"))).before args0 about1 = true := code_word (m := ⟨1, 1⟩) (meth := k1m1) (c := k1c1) (by decide +kernel) rfl rfl rfl (by decide +kernel)
set_option maxRecDepth 65536 in
theorem w_c2 : (Jvm.Cond.code ({ cls := "com/example/shingle/shingle/Signature$Parameter", name := "settable", desc := "()Z" } : Jvm.MethodName) prog_30_method_6_code (1 : Nat) (Option.some Jvm.ClassFile.FieldType.boolean)).before args0 about1 = true := code_word (m := ⟨6, 0⟩) (meth := k6m0) (c := k6c0) (by decide +kernel) rfl rfl rfl (by decide +kernel)
set_option maxRecDepth 65536 in
theorem w_c3 : (Jvm.Cond.code ({ cls := "com/example/shingle/shingle/Signature$Parameter", name := "min", desc := "()J" } : Jvm.MethodName) prog_30_method_7_code (1 : Nat) (Option.some Jvm.ClassFile.FieldType.long)).before args0 about1 = true := code_word (m := ⟨6, 1⟩) (meth := k6m1) (c := k6c1) (by decide +kernel) rfl rfl rfl (by decide +kernel)
set_option maxRecDepth 65536 in
theorem w_c4 : (Jvm.Cond.code ({ cls := "com/example/shingle/shingle/Signature$Parameter", name := "max", desc := "()J" } : Jvm.MethodName) prog_30_method_8_code (1 : Nat) (Option.some Jvm.ClassFile.FieldType.long)).before args0 about1 = true := code_word (m := ⟨6, 2⟩) (meth := k6m2) (c := k6c2) (by decide +kernel) rfl rfl rfl (by decide +kernel)
def codes1 : List Jvm.Cond := [Jvm.Cond.code x code maxLocals ret, Jvm.Cond.code ({ cls := "com/example/shingle/shingle/ParameterSettablePinLaw", name := "pick", desc := "(I)Lcom/example/shingle/shingle/Signature$Parameter;" } : Jvm.MethodName) method_2_code (2 : Nat) (Option.some (Jvm.ClassFile.FieldType.object "com/example/shingle/shingle/Signature$Parameter")), Jvm.Cond.code ({ cls := "com/example/shingle/shingle/Signature$Parameter", name := "settable", desc := "()Z" } : Jvm.MethodName) prog_30_method_6_code (1 : Nat) (Option.some Jvm.ClassFile.FieldType.boolean), Jvm.Cond.code ({ cls := "com/example/shingle/shingle/Signature$Parameter", name := "min", desc := "()J" } : Jvm.MethodName) prog_30_method_7_code (1 : Nat) (Option.some Jvm.ClassFile.FieldType.long), Jvm.Cond.code ({ cls := "com/example/shingle/shingle/Signature$Parameter", name := "max", desc := "()J" } : Jvm.MethodName) prog_30_method_8_code (1 : Nat) (Option.some Jvm.ClassFile.FieldType.long)]
set_option maxRecDepth 65536 in
theorem codes_eq : words1.filter isCode = codes1 := rfl
theorem w_codes : ∀ c ∈ words1.filter isCode, c.before args0 about1 = true := by
  rw [codes_eq]
  intro c hc
  simp only [codes1, List.mem_cons, List.not_mem_nil, or_false] at hc
  rcases hc with rfl | rfl | rfl | rfl | rfl
  · exact w_c0
  · exact w_c1
  · exact w_c2
  · exact w_c3
  · exact w_c4
set_option maxRecDepth 65536 in
theorem w_t1 : (words1.take 24).all (fun c => isCode c || c.before args0 about1) = true := by decide +kernel
set_option maxRecDepth 65536 in
theorem w_t2 : (words1.drop 24).all (fun c => isCode c || c.before args0 about1) = true := by decide +kernel
theorem w_tables : (allAtoms (Jvm.Cond.code x code maxLocals ret :: tables_1)).before args0 about1 = true := by
  rw [allAtoms_all]
  show words1.all (fun c => c.before args0 about1) = true
  refine all_split ?_ w_codes
  rw [← List.take_append_drop 24 words1, List.all_append, w_t1, w_t2]
  rfl
set_option maxRecDepth 65536 in
theorem w_case : (Jvm.Cond.and given_1 narrow_1).before args0 about1 = true := by decide +kernel
theorem w_applies : (headSpec (Jvm.Cond.code x code maxLocals ret :: tables_1) room_1).applies x e0.platform about1 = true :=
  (Spec.applies_iff w_frames).mpr ⟨w_running, w_runnable, w_alone, w_named, w_hears, w_ripe, w_room, w_tables⟩
theorem atStart : AtStart classFile x code maxLocals ret World_1 tables_1 room_1 Calls_1 rest_1 Pre_1 launch0 p0 e0 about1 theMethod args0 below0 :=
  ⟨lists_1, trivial, launch0.admits_env _ _ _, launch0.least_env, fairChoices_fair.cas, fairChoices_fair.clock, w_frames, w_args, w_heap, w_applies, trivial, trivial, w_case⟩
end start1
theorem witness_1 : WitnessClaimed_1 := ⟨start1.p0, start1.e0, start1.about1, start1.theMethod, start1.args0, start1.below0, start1.atStart⟩
end Jvm.Pilot.@@N@@
