import JvmDerived
import JvmDerived.Pilot.@@N@@Statement
import JvmDerived.Pilot.@@N@@Code
set_option linter.unusedVariables false
set_option linter.unusedSimpArgs false
@@BLOCK:NumsL.lean.txt@@
namespace Jvm.RoadKit
open Sem ClassFile Op Lib Jvm.Stand Jvm.Free Jvm.LawKit
section New
variable {p : Program} {l : Launch} {e : Env} {R : Room} {s : State} {m : MethodId} {args : Array Value} {below : List Frame} {meth : Method} {c : Code} {T : State} {locs : List Loc} {cells slots : Nat}
theorem retI (X : Stand p l e R s m args below meth c T locs cells slots) (hx : p.tables.exec = Jvm.exec) {pc : Nat} {Ls : Array Slot} {z : Int32} {rest : List Value} (hret : meth.sig.returnType = some .int) (hd : decode c.code pc = .ok (.ireturn, 1)) {fs : List Frame}
    (hl : ∀ (f : JFrame) (acts : List Action), f.method = m → f.locked = none → f.entered = [] → (doReturn e (T.setTop f) acts (some (.int z))).1 = T.setFrames fs) : Steps p.tables e below (T.setTop (mkF m pc Ls (.int z :: rest))) (T.setFrames fs) := by
  have hm' : T.vm.method? m = some meth := X.method'
  have hn : narrow .int (.int z) = .int z := rfl
  show Steps p.tables e below (T.setTop { method := m, pc := pc, locals := Ls, stack := _ :: rest, locked := none }) _
  jvm_step X.here [X.here.top, hx, hd, hm', hret, hn]
  first | (intro acts; rw [hl _ acts rfl rfl rfl]) | rw [hl _ _ rfl rfl rfl]
  exact Steps.refl _
end New
end Jvm.RoadKit
namespace Jvm.Pilot.@@N@@
open Jvm Jvm.ClassFile Sem Op Lib Jvm.Free Jvm.Stand Jvm.LawKit Jvm.RoadKit Bundle Jvm.Pilot.@@N@@.Jvm.D
section Own
variable {p : Program} {l : Launch} {e : Env} {R : Room} {s : State} {m : MethodId} {args : Array Value} {below : List Frame} {meth : Method} {c : Code} {T : State} {locs : List Loc} {cells slots : Nat}
/-- the run goes on from S to its end, and P holds there -/
def own_Goes (tb : Tables) (e : Env) (below : List Frame) (S : State) (P : State → Outcome → Prop) : Prop :=
  ∃ s₂ o, Steps tb e below S s₂ ∧ s₂.status = .running ∧ Ended s₂ below o ∧ P s₂ o
theorem own_step {tb : Tables} {S S' : State} {P : State → Outcome → Prop} (h : ∀ t, Steps tb e below S' t → Steps tb e below S t) (k : own_Goes tb e below S' P) : own_Goes tb e below S P := by
  obtain ⟨s₂, o, h1, h2⟩ := k
  exact ⟨s₂, o, h _ h1, h2⟩
theorem own_enter {tb : Tables} {g g' : JFrame} {P : State → Outcome → Prop} (q : g = g') (k : own_Goes tb e below (T.setTop g') P) : own_Goes tb e below (T.setTop g) P := q ▸ k
def own_P (s : State) (Q : Option Value → Heap → List Loc → Prop) (C K : Nat) : State → Outcome → Prop := fun U o => ∃ v L, o = .returned v ∧ Q v U.heap L ∧ FrameEnd s o U L C K
/-- a body that writes nothing -/
def own_Qp (w : Option Value) (h0 : Heap) (v : Option Value) (h : Heap) (L : List Loc) : Prop := v = w ∧ L = [] ∧ h = h0
/-- a body that makes cells and writes none that stood before -/
def own_Qa (w : Option Value) (h0 : Heap) (n0 : Nat) (v : Option Value) (h : Heap) (L : List Loc) : Prop := v = w ∧ Fr n0 L ∧ Keep h0 h []
/-- the law -/
def own_Ql (w : Option Value) (n0 : Nat) (v : Option Value) (h : Heap) (L : List Loc) : Prop := v = w ∧ Fr n0 L
variable {Q : Option Value → Heap → List Loc → Prop} {C K : Nat}
theorem own_retI (X : Stand p l e R s m args below meth c T locs cells slots) (hx : p.tables.exec = Jvm.exec) {pc : Nat} {Ls : Array Slot} {z : Int32} {rest : List Value} (hret : meth.sig.returnType = some .int) (hd : decode c.code pc = .ok (.ireturn, 1)) (hk : meth.locks = false)
    (hQ : Q (some (.int z)) T.heap locs) (hc : cells ≤ C) (hs : slots ≤ K) : own_Goes p.tables e below (T.setTop (mkF m pc Ls (.int z :: rest))) (own_P s Q C K) := by
  obtain ⟨fs, hr, hrun, hended, hW, hsame⟩ := X.leave (v := some (.int z)) (fun h => by rw [hret] at h; cases h) hk
  exact ⟨_, _, retI X hx hret hd hr, hrun, hended, _, _, rfl, hQ, ⟨_, rfl⟩, hW, hsame.mono hc hs⟩
theorem own_retN (X : Stand p l e R s m args below meth c T locs cells slots) (hx : p.tables.exec = Jvm.exec) {pc : Nat} {Ls : Array Slot} {z : Int32} {t : FieldType} {rest : List Value} (hret : meth.sig.returnType = some t) (ht : t = .boolean ∨ t = .byte ∨ t = .char ∨ t = .short) (hd : decode c.code pc = .ok (.ireturn, 1)) (hk : meth.locks = false)
    {w : Int32} (hw : nar t z = w) (hQ : Q (some (.int w)) T.heap locs) (hc : cells ≤ C) (hs : slots ≤ K) : own_Goes p.tables e below (T.setTop (mkF m pc Ls (.int z :: rest))) (own_P s Q C K) := by
  subst hw
  obtain ⟨fs, hr, hrun, hended, hW, hsame⟩ := X.leave (v := some (.int (nar t z))) (fun h => by rw [hret] at h; cases h) hk
  exact ⟨_, _, retN X hx hret ht hd hr, hrun, hended, _, _, rfl, hQ, ⟨_, rfl⟩, hW, hsame.mono hc hs⟩
theorem own_retJ (X : Stand p l e R s m args below meth c T locs cells slots) (hx : p.tables.exec = Jvm.exec) {pc : Nat} {Ls : Array Slot} {z : Int64} (hret : meth.sig.returnType = some .long) (hd : decode c.code pc = .ok (.lreturn, 1)) (hk : meth.locks = false)
    (hQ : Q (some (.long z)) T.heap locs) (hc : cells ≤ C) (hs : slots ≤ K) : own_Goes p.tables e below (T.setTop (mkF m pc Ls [.long z])) (own_P s Q C K) := by
  obtain ⟨fs, hr, hrun, hended, hW, hsame⟩ := X.leave (v := some (.long z)) (fun h => by rw [hret] at h; cases h) hk
  exact ⟨_, _, X.lreturnOut hx hret hd hr, hrun, hended, _, _, rfl, hQ, ⟨_, rfl⟩, hW, hsame.mono hc hs⟩
theorem own_retV (X : Stand p l e R s m args below meth c T locs cells slots) (hx : p.tables.exec = Jvm.exec) {pc : Nat} {Ls : Array Slot} (hret : meth.sig.returnType = none) (hd : decode c.code pc = .ok (.return_, 1)) (hk : meth.locks = false)
    (hQ : Q none T.heap locs) (hc : cells ≤ C) (hs : slots ≤ K) : own_Goes p.tables e below (T.setTop (mkF m pc Ls [])) (own_P s Q C K) := by
  obtain ⟨fs, hr, hrun, hended, hW, hsame⟩ := X.leave (v := none) (fun _ => rfl) hk
  exact ⟨_, _, X.returnOut hx hret hd hr, hrun, hended, _, _, rfl, hQ, ⟨_, rfl⟩, hW, hsame.mono hc hs⟩
theorem own_flat (X : Stand p l e R s m args below meth c T (locs ++ []) (cells + 0) (slots + 0)) : Stand p l e R s m args below meth c T locs cells slots := List.append_nil locs ▸ X
end Own

section OwnWide
variable {p : Program} {l : Launch} {e : Env} {R : Room} {s : State} {vm₁ : Vm} {m : MethodId} {args : Array Value} {below : List Frame} {meth : Method} {c : Code} {T : State} {locs : List Loc} {cells slots k0 : Nat} {Q : Option Value → Heap → List Loc → Prop} {C K : Nat}
/-- as own_P, where String constants may have been resolved on the road -/
def own_PW (s : State) (Q : Option Value → Heap → List Loc → Prop) (C K : Nat) : State → Outcome → Prop := fun U o => ∃ v L, o = .returned v ∧ Q v U.heap L ∧ ReturnedEndW s o U L C K
theorem own_retNW (X : Stand p l e R (s.setVm vm₁) m args below meth c T locs cells slots) (hS : s.Since vm₁ k0) (hk : k0 ≤ T.heap.size) (hx : p.tables.exec = Jvm.exec) {pc : Nat} {Ls : Array Slot} {z : Int32} {t : FieldType} {rest : List Value} (hret : meth.sig.returnType = some t) (ht : t = .boolean ∨ t = .byte ∨ t = .char ∨ t = .short) (hd : decode c.code pc = .ok (.ireturn, 1)) (hl : meth.locks = false)
    {w : Int32} (hw : nar t z = w) (hQ : Q (some (.int w)) T.heap locs) (hc : cells ≤ C) (hs : slots ≤ K) : own_Goes p.tables e below (T.setTop (mkF m pc Ls (.int z :: rest))) (own_PW s Q C K) := by
  subst hw
  obtain ⟨fs, hr, hrun, hended, q1, q2, q3, q4⟩ := X.leaveW hS hk (v := some (.int (nar t z))) (fun h => by rw [hret] at h; cases h) hl
  exact ⟨_, _, retN X hx hret ht hd hr, hrun, hended, _, _, rfl, hQ, q1, q2, q3, q4.mono hc hs⟩
theorem own_retVW (X : Stand p l e R (s.setVm vm₁) m args below meth c T locs cells slots) (hS : s.Since vm₁ k0) (hk : k0 ≤ T.heap.size) (hx : p.tables.exec = Jvm.exec) {pc : Nat} {Ls : Array Slot} (hret : meth.sig.returnType = none) (hd : decode c.code pc = .ok (.return_, 1)) (hl : meth.locks = false)
    (hQ : Q none T.heap locs) (hc : cells ≤ C) (hs : slots ≤ K) : own_Goes p.tables e below (T.setTop (mkF m pc Ls [])) (own_PW s Q C K) := by
  obtain ⟨fs, hr, hrun, hended, q1, q2, q3, q4⟩ := X.leaveW hS hk (v := none) (fun _ => rfl) hl
  exact ⟨_, _, X.returnOut hx hret hd hr, hrun, hended, _, _, rfl, hQ, q1, q2, q3, q4.mono hc hs⟩
end OwnWide
theorem own_rem32 (x y : Int32) : (x - x / y * y).toInt = x.toInt.tmod y.toInt := by
  have a := (x % y).toInt_lt; have b := (x % y).le_toInt
  rw [Int32.toInt_mod] at a b
  rw [Int32.toInt_sub, Int32.toInt_mul, Int32.toInt_div, Int.bmod_mul_bmod, Int.sub_bmod_bmod, Int.mul_comm, ← Int.tmod_def]
  exact Jvm.Kit.bmod32 b a
theorem own_rem32n {x y : Int32} (hx : 0 ≤ x.toInt) : (x - x / y * y).toInt = x.toInt % y.toInt := by rw [own_rem32, Int.tmod_eq_emod_of_nonneg hx]
theorem own_m31 (x : Int32) : 0 ≤ (x &&& (2147483647 : Int32)).toInt ∧ (x &&& (2147483647 : Int32)).toInt < 2147483648 := by
  rw [Jvm.Kit.i32_mask x 2147483647 (k := 31) (by decide) (by decide)]
  omega
theorem own_str {Z : State} {a0 : Array Value} (hw : ∀ d ∈ tables_1, d.before a0 Z = true) : ∀ d ∈ Bundle.stringAtoms, d.before a0 Z = true := by
  intro d hd
  simp only [Bundle.stringAtoms, List.mem_cons, List.not_mem_nil, or_false] at hd
  rcases hd with rfl | rfl | rfl | rfl | rfl | rfl | rfl
  · exact hw _ (List.mem_of_getElem? (i := 11) rfl)
  · exact hw _ (List.mem_of_getElem? (i := 12) rfl)
  · exact hw _ (List.mem_of_getElem? (i := 13) rfl)
  · exact hw _ (List.mem_of_getElem? (i := 14) rfl)
  · exact hw _ (List.mem_of_getElem? (i := 15) rfl)
  · exact hw _ (List.mem_of_getElem? (i := 16) rfl)
  · exact hw _ (List.mem_of_getElem? (i := 17) rfl)
theorem own_nn (x : Int64) : ¬ (x &&& (9223372036854775807 : Int64)) < 0 := by
  have e := Jvm.Kit.i64_mask x 9223372036854775807 (k := 63) (by decide) (by decide)
  rw [Int64.lt_iff_toInt_lt, e, show (0 : Int64).toInt = 0 from rfl]
  omega

theorem d3_0 : decode prog_27_method_5_code 0 = .ok (.lload_n 1, 1) := by decide +kernel
theorem d3_1 : decode prog_27_method_5_code 1 = .ok (.lconst 0, 1) := by decide +kernel
theorem d3_2 : decode prog_27_method_5_code 2 = .ok (.lcmp, 1) := by decide +kernel
theorem d3_3 : decode prog_27_method_5_code 3 = .ok (.ifCond .ge 18, 3) := by decide +kernel
theorem d3_21 : decode prog_27_method_5_code 21 = .ok (.lload_n 1, 1) := by decide +kernel
theorem d3_22 : decode prog_27_method_5_code 22 = .ok (.lreturn, 1) := by decide +kernel
theorem pn_3 : plainName "com/example/bound/bound/validation/TimestampBounds" = true := by first | (simp [plainName, overriddenIn]; done) | decide +kernel
theorem ef_3 (m : MethodId) (r0 : Addr) (q1 : Int64) : entryFrame m #[(.ref r0), (.long q1)] 3 = mkF m 0 #[.val (.ref r0), .val (.long q1), .second] [] := by first | (simp [entryFrame, mkF, argsToLocals, Value.category]; done) | rfl
def own_f3 (q1 : Int64) : Int64 :=
  q1
abbrev own_room3 : Room := { frames := 0, cells := 0, slots := 0, locals := 0 }
set_option maxRecDepth 65536 in
set_option maxHeartbeats 40000000 in
theorem rm3 (l : Launch) (Z : State) (a0 : Array Value) (hw : ∀ d ∈ tables_1, d.before a0 Z = true) (ws : List Jvm.Cond) (r0 : Addr) (q1 : Int64) (h0 : Heap) (n0 : Nat) (Z0 : n0 ≤ h0.size) (hq : ¬ q1 < 0) :
    MetFree l (⟨"com/example/bound/bound/validation/TimestampBounds", "checked", "(Ljava/lang/String;J)J"⟩ : MethodName) (head1 (Jvm.Cond.code (⟨"com/example/bound/bound/validation/TimestampBounds", "checked", "(Ljava/lang/String;J)J"⟩ : MethodName) prog_27_method_5_code 3 (some .long) :: ws) own_room3) (fun a U => a = #[(.ref r0), (.long q1)] ∧ Z.Warmed39 U.vm ∧ U.heap = h0) (fun _ _ _ _ _ => True) (fun _ U o U' => ∃ v L, o = .returned v ∧ own_Qp (some (.long (own_f3 q1))) h0 v U'.heap L ∧ FrameEnd U o U' L own_room3.cells own_room3.slots) := by
  refine MetFree.of_bodySF (plainFor_of_name pn_3) hisR ?_
  intro p e s m args below meth c s₁ Bd hml0 hP hK
  obtain ⟨rfl, hZ, hh⟩ := hP
  have hx := Bd.exec
  have hby := Bd.bytes
  have hml : c.maxLocals = 3 := hml0
  have hown : s.vm.findClass "com/example/bound/bound/validation/TimestampBounds" = some m.cls := findClass_of_methodNamed Bd.named
  have hnm := (name_of_methodNamed Bd.named Bd.method).1
  have X0 : Stand p l e own_room3 s m #[(.ref r0), (.long q1)] below meth c s₁ [] 0 0 := Stand.of_body Bd
  have e0 : s₁.heap = h0 := by rw [← hh, Bd.state]; rfl
  have N0 := Fr.nil n0
  refine own_enter (ef_3 m r0 q1) ?_
  show own_Goes p.tables e below (s₁.setTop (mkF m 0 #[.val (.ref r0), .val (.long q1), .second] [])) (own_P s (own_Qp (some (.long (own_f3 q1))) h0) own_room3.cells own_room3.slots)
  refine own_step (fun _ => XS.lloadN X0.here hx rfl (hb hby d3_0) rfl) ?_
  show own_Goes p.tables e below (s₁.setTop (mkF m 1 #[.val (.ref r0), .val (.long q1), .second] [(.long q1)])) _
  refine own_step (fun _ => XS.lconst X0.here hx rfl (hb hby d3_1)) ?_
  show own_Goes p.tables e below (s₁.setTop (mkF m 2 #[.val (.ref r0), .val (.long q1), .second] [(.long (0 : Int64)), (.long q1)])) _
  refine own_step (fun _ => Jvm.Free.XT.lcmp X0.here hx rfl (hb hby d3_2) rfl) ?_
  show own_Goes p.tables e below (s₁.setTop (mkF m 3 #[.val (.ref r0), .val (.long q1), .second] [(.int (Jvm.Free.XT.cmpL q1 (0 : Int64)))])) _
  refine own_step (fun _ => XS.ifYes X0.here hx rfl (pc0 := 3) (pc' := 21) rfl (hb hby d3_3) rfl (Jvm.Free.XT.ll_ge_t hq) (by decide) (by decide)) ?_
  show own_Goes p.tables e below (s₁.setTop (mkF m 21 #[.val (.ref r0), .val (.long q1), .second] [])) _
  refine own_step (fun _ => XS.lloadN X0.here hx rfl (hb hby d3_21) rfl) ?_
  show own_Goes p.tables e below (s₁.setTop (mkF m 22 #[.val (.ref r0), .val (.long q1), .second] [(.long q1)])) _
  have hv : (own_f3 q1) = q1 := by exact rfl
  rw [hv]
  exact own_retJ X0 hx Bd.returns (hb hby d3_22) (BodyLoose.notSynchronized Bd) ⟨rfl, rfl, e0⟩ (by decide) (by decide)
theorem d1_0 : decode prog_27_method_1_code 0 = .ok (.aload_n 0, 1) := by decide +kernel
theorem d1_1 : decode prog_27_method_1_code 1 = .ok (.invokespecial 5, 3) := by decide +kernel
theorem d1_4 : decode prog_27_method_1_code 4 = .ok (.aload_n 0, 1) := by decide +kernel
theorem d1_5 : decode prog_27_method_1_code 5 = .ok (.ldc 11, 2) := by decide +kernel
theorem d1_7 : decode prog_27_method_1_code 7 = .ok (.lload_n 1, 1) := by decide +kernel
theorem d1_8 : decode prog_27_method_1_code 8 = .ok (.invokestatic 13, 3) := by decide +kernel
theorem d1_11 : decode prog_27_method_1_code 11 = .ok (.putfield 17, 3) := by decide +kernel
theorem d1_14 : decode prog_27_method_1_code 14 = .ok (.aload_n 0, 1) := by decide +kernel
theorem d1_15 : decode prog_27_method_1_code 15 = .ok (.ldc 21, 2) := by decide +kernel
theorem d1_17 : decode prog_27_method_1_code 17 = .ok (.lload_n 3, 1) := by decide +kernel
theorem d1_18 : decode prog_27_method_1_code 18 = .ok (.invokestatic 13, 3) := by decide +kernel
theorem d1_21 : decode prog_27_method_1_code 21 = .ok (.putfield 23, 3) := by decide +kernel
theorem d1_24 : decode prog_27_method_1_code 24 = .ok (.return_, 1) := by decide +kernel
theorem pn_1 : plainName "com/example/bound/bound/validation/TimestampBounds" = true := by first | (simp [plainName, overriddenIn]; done) | decide +kernel
theorem pd_1_0 : parseMethodDescriptor "(Ljava/lang/String;J)J" = some ⟨[(.object "java/lang/String"), .long], some .long⟩ := by decide +kernel
theorem ef_1 (m : MethodId) (r0 : Addr) (q1 : Int64) (q2 : Int64) : entryFrame m #[(.ref r0), (.long q1), (.long q2)] 5 = mkF m 0 #[.val (.ref r0), .val (.long q1), .second, .val (.long q2), .second] [] := by first | (simp [entryFrame, mkF, argsToLocals, Value.category]; done) | rfl
def own_f1 (q1 : Int64) (q2 : Int64) (u0 : Int64) (u1 : Int64) : Int32 :=
  (0 : Int32)
def own_Q1 (Z : State) (r0 : Addr) (q1 : Int64) (q2 : Int64) (u0 : Int64) (u1 : Int64) (w : Option Value) (h0 : Heap) (n0 : Nat) (v : Option Value) (h : Heap) (L : List Loc) : Prop := v = w ∧ Fr n0 L ∧ Keep h0 h [r0] ∧ Exa Z h r0 "com/example/bound/bound/validation/TimestampBounds" ∧ Fld Z h r0 "com/example/bound/bound/validation/TimestampBounds" "beforeMaxMs" "J" (.long q1) ∧ Fld Z h r0 "com/example/bound/bound/validation/TimestampBounds" "afterMaxMs" "J" (.long q2)
abbrev own_room1 : Room := { frames := 1, cells := 4, slots := 284, locals := 15 }
set_option maxRecDepth 65536 in
set_option maxHeartbeats 40000000 in
theorem rm1 (l : Launch) (Z : State) (a0 : Array Value) (hw : ∀ d ∈ tables_1, d.before a0 Z = true) (ws : List Jvm.Cond) (r0 : Addr) (q1 : Int64) (q2 : Int64) (u0 : Int64) (u1 : Int64) (h0 : Heap) (n0 : Nat) (Z0 : n0 ≤ h0.size) (E_r0 : Exa Z h0 r0 "com/example/bound/bound/validation/TimestampBounds") (F_beforeMaxMs_r0 : Fld Z h0 r0 "com/example/bound/bound/validation/TimestampBounds" "beforeMaxMs" "J" (.long u0)) (F_afterMaxMs_r0 : Fld Z h0 r0 "com/example/bound/bound/validation/TimestampBounds" "afterMaxMs" "J" (.long u1)) (g_r0 : n0 ≤ r0) (hb1 : ¬ q1 < 0) (hb2 : ¬ q2 < 0) :
    MetFree l (⟨"com/example/bound/bound/validation/TimestampBounds", "<init>", "(JJ)V"⟩ : MethodName) (head1 (Jvm.Cond.code (⟨"com/example/bound/bound/validation/TimestampBounds", "<init>", "(JJ)V"⟩ : MethodName) prog_27_method_1_code 5 none :: ws) own_room1) (fun a U => a = #[(.ref r0), (.long q1), (.long q2)] ∧ Z.Warmed39 U.vm ∧ U.heap = h0) (fun _ _ _ _ _ => True) (fun _ U o U' => ∃ v L, o = .returned v ∧ own_Q1 Z r0 q1 q2 u0 u1 none h0 n0 v U'.heap L ∧ ReturnedEndW U o U' L own_room1.cells own_room1.slots) := by
  refine MetFree.of_bodySF (plainFor_of_name pn_1) hisR ?_
  intro p e s m args below meth c s₁ Bd hml0 hP hK
  obtain ⟨rfl, hZ, hh⟩ := hP
  have hx := Bd.exec
  have hby := Bd.bytes
  have hml : c.maxLocals = 5 := hml0
  have hown : s.vm.findClass "com/example/bound/bound/validation/TimestampBounds" = some m.cls := findClass_of_methodNamed Bd.named
  have hnm := (name_of_methodNamed Bd.named Bd.method).1
  have X0 : Stand p l e own_room1 s m #[(.ref r0), (.long q1), (.long q2)] below meth c s₁ [] 0 0 := Stand.of_body Bd
  have e0 : s₁.heap = h0 := by rw [← hh, Bd.state]; rfl
  have N0 := Fr.nil n0
  have hS : s.Since s.vm h0.size := (State.WarmedH.refl s).since _
  have hk : h0.size ≤ h0.size := Nat.le_refl _
  have X0 : Stand p l e own_room1 (s.setVm s.vm) m #[(.ref r0), (.long q1), (.long q2)] below meth c s₁ [] 0 0 := X0
  refine own_enter (ef_1 m r0 q1 q2) ?_
  show own_Goes p.tables e below (s₁.setTop (mkF m 0 #[.val (.ref r0), .val (.long q1), .second, .val (.long q2), .second] [])) (own_PW s (own_Q1 Z r0 q1 q2 u0 u1 none h0 n0) own_room1.cells own_room1.slots)
  refine own_step (fun _ => XS.aloadN X0.here hx rfl (hb hby d1_0) rfl rfl) ?_
  show own_Goes p.tables e below (s₁.setTop (mkF m 1 #[.val (.ref r0), .val (.long q1), .second, .val (.long q2), .second] [(.ref r0)])) _
  obtain ⟨T1, X1, e1, st1⟩ := initO X0 hx hZ hown (hw _ (List.mem_of_getElem? (i := 7) rfl)) (hw _ (List.mem_of_getElem? (i := 8) rfl)) (hw _ (List.mem_of_getElem? (i := 9) rfl)) e0 (g := (mkF m 1 #[.val (.ref r0), .val (.long q1), .second, .val (.long q2), .second] [(.ref r0)])) rfl (by rw [hml]; rfl) rfl (hb hby d1_1) (by decide) (W := 0) (by show 2 * 0 + _ ≤ _; exact Nat.le_of_eq rfl) (by decide)
  refine own_step (st1) ?_
  show own_Goes p.tables e below (T1.setTop (mkF m 4 #[.val (.ref r0), .val (.long q1), .second, .val (.long q2), .second] [])) _
  refine own_step (fun _ => XS.aloadN X1.here hx rfl (hb hby d1_4) rfl rfl) ?_
  show own_Goes p.tables e below (T1.setTop (mkF m 5 #[.val (.ref r0), .val (.long q1), .second, .val (.long q2), .second] [(.ref r0)])) _
  obtain ⟨t5, T2, h2, ks2, X2, e2, E2, hS, hk, hZ, hown, st2⟩ := ldcS X1 hx hZ hown (hw _ (List.mem_of_getElem? (i := 10) rfl)) (own_str hw) e1 hS hk (g := (mkF m 5 #[.val (.ref r0), .val (.long q1), .second, .val (.long q2), .second] [(.ref r0)])) rfl (hb hby d1_5) (n := 140) (by decide) (by decide) (by decide) (by decide)
  have K2 : Keep h0 h2 [r0] := (Keep.refl h0 [r0]).ext E2
  have Z2 : n0 ≤ h2.size := Nat.le_trans Z0 E2.1
  have E_r0_2 : Exa Z h2 r0 "com/example/bound/bound/validation/TimestampBounds" := E_r0.ext E2
  have F_beforeMaxMs_r0_2 : Fld Z h2 r0 "com/example/bound/bound/validation/TimestampBounds" "beforeMaxMs" "J" (.long u0) := F_beforeMaxMs_r0.ext E2
  have F_afterMaxMs_r0_2 : Fld Z h2 r0 "com/example/bound/bound/validation/TimestampBounds" "afterMaxMs" "J" (.long u1) := F_afterMaxMs_r0.ext E2
  refine own_step (st2) ?_
  show own_Goes p.tables e below (T2.setTop (mkF m 7 #[.val (.ref r0), .val (.long q1), .second, .val (.long q2), .second] [(.ref t5), (.ref r0)])) _
  refine own_step (fun _ => XS.lloadN X2.here hx rfl (hb hby d1_7) rfl) ?_
  show own_Goes p.tables e below (T2.setTop (mkF m 8 #[.val (.ref r0), .val (.long q1), .second, .val (.long q2), .second] [(.long q1), (.ref t5), (.ref r0)])) _
  obtain ⟨_, _, ⟨T3, L3, k3, n3⟩, -, X3, ⟨Lc3, hQ3, l3, y3, z3⟩, st3⟩ := Jvm.LawKit.callS X2 hx (y := (⟨"com/example/bound/bound/validation/TimestampBounds", "checked", "(Ljava/lang/String;J)J"⟩ : MethodName)) hown (mvT hZ (hw _ (List.mem_of_getElem? (i := 18) rfl))) (mvT hZ (hw _ (List.mem_of_getElem? (i := 19) rfl))) (mvT hZ (hw _ (List.mem_of_getElem? (i := 3) rfl))) (mvT hZ (hw _ (List.mem_of_getElem? (i := 20) rfl))) (by decide) (backOf (W := 1) (rm3 l Z a0 hw [] t5 q1 h2 n0 Z2 hb1) hZ (hw _ (List.mem_of_getElem? (i := 20) rfl)) (hw _ (List.mem_of_getElem? (i := 3) rfl)) (by decide) (by decide)) (g := (mkF m 8 #[.val (.ref r0), .val (.long q1), .second, .val (.long q2), .second] [(.long q1), (.ref t5), (.ref r0)])) rfl (by rw [hml]; rfl) (argsL := [(.ref t5), (.long q1)]) (rest := [(.ref r0)]) (lenOf pd_1_0 rfl) rfl (by show 2 * 0 + _ ≤ _; exact Nat.le_of_eq rfl) (hb hby d1_8) (fun _ _ => ⟨rfl, e2, (by decide : (0 + 2) + 0 ≤ _), (by decide : (0 + (140 + 4)) + 0 ≤ _)⟩)
  dsimp only [Pt.U, Pt.locs, Pt.cells, Pt.slots] at X3 l3 y3 z3 st3 hQ3
  subst l3 y3 z3
  obtain ⟨rfl, rfl, e3⟩ := hQ3
  have X3 : Stand p l e own_room1 (s.setVm T2.vm) m #[(.ref r0), (.long q1), (.long q2)] below meth c T3 [] (0 + 2) (0 + (140 + 4)) := own_flat X3
  refine own_step (st3) ?_
  show own_Goes p.tables e below (T3.setTop (mkF m 11 #[.val (.ref r0), .val (.long q1), .second, .val (.long q2), .second] [(.long (own_f3 q1)), (.ref r0)])) _
  obtain ⟨T4, h4, X4, e4, W4, st4⟩ := putF X3 hx hZ hown (host := "") (Or.inl (hw _ (List.mem_of_getElem? (i := 21) rfl))) Via.refl e3 F_beforeMaxMs_r0_2 E_r0_2 (Or.inr ⟨(hw _ (List.mem_of_getElem? (i := 22) rfl)), rfl, hnm⟩) (hw _ (List.mem_of_getElem? (i := 2) rfl)) (ty := .long) (by decide) rfl rfl (g := (mkF m 11 #[.val (.ref r0), .val (.long q1), .second, .val (.long q2), .second] [(.long (own_f3 q1)), (.ref r0)])) rfl rfl (hb hby d1_11)
  have E_r0_4 : Exa Z h4 r0 "com/example/bound/bound/validation/TimestampBounds" := E_r0_2.wr W4
  have F_afterMaxMs_r0_4 : Fld Z h4 r0 "com/example/bound/bound/validation/TimestampBounds" "afterMaxMs" "J" (.long u1) := F_afterMaxMs_r0_2.other W4 (Or.inr (slot_ne (Or.inr (hw _ (List.mem_of_getElem? (i := 25) rfl))) (Or.inr (hw _ (List.mem_of_getElem? (i := 22) rfl))) (by decide) (t := .long) (t' := .long) (by decide) (by decide)))
  have F_beforeMaxMs_r0_4 : Fld Z h4 r0 "com/example/bound/bound/validation/TimestampBounds" "beforeMaxMs" "J" (.long (own_f3 q1)) := F_beforeMaxMs_r0_2.same W4
  have K4 : Keep h0 h4 [r0] := K2.wr W4 (Or.inl (List.mem_of_getElem? (i := 0) rfl))
  obtain ⟨Lx4, X4, N4⟩ : ∃ L', Stand p l e own_room1 (s.setVm T2.vm) m #[(.ref r0), (.long q1), (.long q2)] below meth c T4 L' (0 + 2) (0 + (140 + 4)) ∧ Fr n0 L' := ⟨_, X4, Fr.snoc X4 N0 g_r0⟩
  have Z4 : n0 ≤ h4.size := Nat.le_trans Z0 K4.1
  have hk := Nat.le_trans hk (Keep.of_wr W4).1
  refine own_step (st4) ?_
  show own_Goes p.tables e below (T4.setTop (mkF m 14 #[.val (.ref r0), .val (.long q1), .second, .val (.long q2), .second] [])) _
  refine own_step (fun _ => XS.aloadN X4.here hx rfl (hb hby d1_14) rfl rfl) ?_
  show own_Goes p.tables e below (T4.setTop (mkF m 15 #[.val (.ref r0), .val (.long q1), .second, .val (.long q2), .second] [(.ref r0)])) _
  obtain ⟨t15, T5, h5, ks5, X5, e5, E5, hS, hk, hZ, hown, st5⟩ := ldcS X4 hx hZ hown (hw _ (List.mem_of_getElem? (i := 23) rfl)) (own_str hw) e4 hS hk (g := (mkF m 15 #[.val (.ref r0), .val (.long q1), .second, .val (.long q2), .second] [(.ref r0)])) rfl (hb hby d1_15) (n := 136) (by decide) (by decide) (by decide) (by decide)
  have K5 : Keep h0 h5 [r0] := K4.ext E5
  have Z5 : n0 ≤ h5.size := Nat.le_trans Z4 E5.1
  have E_r0_5 : Exa Z h5 r0 "com/example/bound/bound/validation/TimestampBounds" := E_r0_4.ext E5
  have F_afterMaxMs_r0_5 : Fld Z h5 r0 "com/example/bound/bound/validation/TimestampBounds" "afterMaxMs" "J" (.long u1) := F_afterMaxMs_r0_4.ext E5
  have F_beforeMaxMs_r0_5 : Fld Z h5 r0 "com/example/bound/bound/validation/TimestampBounds" "beforeMaxMs" "J" (.long (own_f3 q1)) := F_beforeMaxMs_r0_4.ext E5
  refine own_step (st5) ?_
  show own_Goes p.tables e below (T5.setTop (mkF m 17 #[.val (.ref r0), .val (.long q1), .second, .val (.long q2), .second] [(.ref t15), (.ref r0)])) _
  refine own_step (fun _ => XS.lloadN X5.here hx rfl (hb hby d1_17) rfl) ?_
  show own_Goes p.tables e below (T5.setTop (mkF m 18 #[.val (.ref r0), .val (.long q1), .second, .val (.long q2), .second] [(.long q2), (.ref t15), (.ref r0)])) _
  obtain ⟨_, _, ⟨T6, L6, k6, n6⟩, -, X6, ⟨Lc6, hQ6, l6, y6, z6⟩, st6⟩ := Jvm.LawKit.callS X5 hx (y := (⟨"com/example/bound/bound/validation/TimestampBounds", "checked", "(Ljava/lang/String;J)J"⟩ : MethodName)) hown (mvT hZ (hw _ (List.mem_of_getElem? (i := 18) rfl))) (mvT hZ (hw _ (List.mem_of_getElem? (i := 19) rfl))) (mvT hZ (hw _ (List.mem_of_getElem? (i := 3) rfl))) (mvT hZ (hw _ (List.mem_of_getElem? (i := 20) rfl))) (by decide) (backOf (W := 1) (rm3 l Z a0 hw [] t15 q2 h5 n0 Z5 hb2) hZ (hw _ (List.mem_of_getElem? (i := 20) rfl)) (hw _ (List.mem_of_getElem? (i := 3) rfl)) (by decide) (by decide)) (g := (mkF m 18 #[.val (.ref r0), .val (.long q1), .second, .val (.long q2), .second] [(.long q2), (.ref t15), (.ref r0)])) rfl (by rw [hml]; rfl) (argsL := [(.ref t15), (.long q2)]) (rest := [(.ref r0)]) (lenOf pd_1_0 rfl) rfl (by show 2 * 0 + _ ≤ _; exact Nat.le_of_eq rfl) (hb hby d1_18) (fun _ _ => ⟨rfl, e5, (by decide : ((0 + 2) + 2) + 0 ≤ _), (by decide : ((0 + (140 + 4)) + (136 + 4)) + 0 ≤ _)⟩)
  dsimp only [Pt.U, Pt.locs, Pt.cells, Pt.slots] at X6 l6 y6 z6 st6 hQ6
  subst l6 y6 z6
  obtain ⟨rfl, rfl, e6⟩ := hQ6
  have X6 : Stand p l e own_room1 (s.setVm T5.vm) m #[(.ref r0), (.long q1), (.long q2)] below meth c T6 Lx4 ((0 + 2) + 2) ((0 + (140 + 4)) + (136 + 4)) := own_flat X6
  refine own_step (st6) ?_
  show own_Goes p.tables e below (T6.setTop (mkF m 21 #[.val (.ref r0), .val (.long q1), .second, .val (.long q2), .second] [(.long (own_f3 q2)), (.ref r0)])) _
  obtain ⟨T7, h7, X7, e7, W7, st7⟩ := putF X6 hx hZ hown (host := "") (Or.inl (hw _ (List.mem_of_getElem? (i := 24) rfl))) Via.refl e6 F_afterMaxMs_r0_5 E_r0_5 (Or.inr ⟨(hw _ (List.mem_of_getElem? (i := 25) rfl)), rfl, hnm⟩) (hw _ (List.mem_of_getElem? (i := 2) rfl)) (ty := .long) (by decide) rfl rfl (g := (mkF m 21 #[.val (.ref r0), .val (.long q1), .second, .val (.long q2), .second] [(.long (own_f3 q2)), (.ref r0)])) rfl rfl (hb hby d1_21)
  have E_r0_7 : Exa Z h7 r0 "com/example/bound/bound/validation/TimestampBounds" := E_r0_5.wr W7
  have F_beforeMaxMs_r0_7 : Fld Z h7 r0 "com/example/bound/bound/validation/TimestampBounds" "beforeMaxMs" "J" (.long (own_f3 q1)) := F_beforeMaxMs_r0_5.other W7 (Or.inr (slot_ne (Or.inr (hw _ (List.mem_of_getElem? (i := 22) rfl))) (Or.inr (hw _ (List.mem_of_getElem? (i := 25) rfl))) (by decide) (t := .long) (t' := .long) (by decide) (by decide)))
  have F_afterMaxMs_r0_7 : Fld Z h7 r0 "com/example/bound/bound/validation/TimestampBounds" "afterMaxMs" "J" (.long (own_f3 q2)) := F_afterMaxMs_r0_5.same W7
  have K7 : Keep h0 h7 [r0] := K5.wr W7 (Or.inl (List.mem_of_getElem? (i := 0) rfl))
  obtain ⟨Lx7, X7, N7⟩ : ∃ L', Stand p l e own_room1 (s.setVm T5.vm) m #[(.ref r0), (.long q1), (.long q2)] below meth c T7 L' ((0 + 2) + 2) ((0 + (140 + 4)) + (136 + 4)) ∧ Fr n0 L' := ⟨_, X7, Fr.snoc X7 N4 g_r0⟩
  have Z7 : n0 ≤ h7.size := Nat.le_trans Z0 K7.1
  have hk := Nat.le_trans hk (Keep.of_wr W7).1
  refine own_step (st7) ?_
  show own_Goes p.tables e below (T7.setTop (mkF m 24 #[.val (.ref r0), .val (.long q1), .second, .val (.long q2), .second] [])) _
  exact own_retVW X7 hS (by rw [e7]; exact hk) hx Bd.returns (hb hby d1_24) (BodyLoose.notSynchronized Bd) (by rw [e7]; exact ⟨rfl, N7, K7, E_r0_7, F_beforeMaxMs_r0_7, F_afterMaxMs_r0_7⟩) (by decide) (by decide)
theorem d4_0 : decode prog_27_method_2_code 0 = .ok (.lload_n 1, 1) := by decide +kernel
theorem d4_1 : decode prog_27_method_2_code 1 = .ok (.ldc2_w 26, 3) := by decide +kernel
theorem d4_4 : decode prog_27_method_2_code 4 = .ok (.aload_n 0, 1) := by decide +kernel
theorem d4_5 : decode prog_27_method_2_code 5 = .ok (.getfield 17, 3) := by decide +kernel
theorem d4_8 : decode prog_27_method_2_code 8 = .ok (.ladd, 1) := by decide +kernel
theorem d4_9 : decode prog_27_method_2_code 9 = .ok (.lcmp, 1) := by decide +kernel
theorem d4_10 : decode prog_27_method_2_code 10 = .ok (.ifCond .ge 9, 3) := by decide +kernel
theorem d4_13 : decode prog_27_method_2_code 13 = .ok (.ldc2_w 26, 3) := by decide +kernel
theorem d4_16 : decode prog_27_method_2_code 16 = .ok (.goto 9, 3) := by decide +kernel
theorem d4_19 : decode prog_27_method_2_code 19 = .ok (.lload_n 1, 1) := by decide +kernel
theorem d4_20 : decode prog_27_method_2_code 20 = .ok (.aload_n 0, 1) := by decide +kernel
theorem d4_21 : decode prog_27_method_2_code 21 = .ok (.getfield 17, 3) := by decide +kernel
theorem d4_24 : decode prog_27_method_2_code 24 = .ok (.lsub, 1) := by decide +kernel
theorem d4_25 : decode prog_27_method_2_code 25 = .ok (.lreturn, 1) := by decide +kernel
theorem pn_4 : plainName "com/example/bound/bound/validation/TimestampBounds" = true := by first | (simp [plainName, overriddenIn]; done) | decide +kernel
theorem ef_4 (m : MethodId) (r0 : Addr) (q1 : Int64) : entryFrame m #[(.ref r0), (.long q1)] 3 = mkF m 0 #[.val (.ref r0), .val (.long q1), .second] [] := by first | (simp [entryFrame, mkF, argsToLocals, Value.category]; done) | rfl
def own_f4 (q1 : Int64) (u1 : Int64) : Int64 :=
  if q1 < ((-9223372036854775808 : Int64) + u1) then
    (-9223372036854775808 : Int64)
  else
    (q1 - u1)
def own_Q4 (Z : State) (r0 : Addr) (q1 : Int64) (u1 : Int64) (w : Option Value) (h0 : Heap) (n0 : Nat) (v : Option Value) (h : Heap) (L : List Loc) : Prop := v = w ∧ Fr n0 L ∧ Keep h0 h [] ∧ Exa Z h r0 "com/example/bound/bound/validation/TimestampBounds" ∧ Fld Z h r0 "com/example/bound/bound/validation/TimestampBounds" "beforeMaxMs" "J" (.long u1)
abbrev own_room4 : Room := { frames := 0, cells := 0, slots := 0, locals := 0 }
set_option maxRecDepth 65536 in
set_option maxHeartbeats 40000000 in
theorem rm4 (l : Launch) (Z : State) (a0 : Array Value) (hw : ∀ d ∈ tables_1, d.before a0 Z = true) (ws : List Jvm.Cond) (r0 : Addr) (q1 : Int64) (u1 : Int64) (h0 : Heap) (n0 : Nat) (Z0 : n0 ≤ h0.size) (E_r0 : Exa Z h0 r0 "com/example/bound/bound/validation/TimestampBounds") (F_beforeMaxMs_r0 : Fld Z h0 r0 "com/example/bound/bound/validation/TimestampBounds" "beforeMaxMs" "J" (.long u1)) :
    MetFree l (⟨"com/example/bound/bound/validation/TimestampBounds", "lowest", "(J)J"⟩ : MethodName) (head1 (Jvm.Cond.code (⟨"com/example/bound/bound/validation/TimestampBounds", "lowest", "(J)J"⟩ : MethodName) prog_27_method_2_code 3 (some .long) :: ws) own_room4) (fun a U => a = #[(.ref r0), (.long q1)] ∧ Z.Warmed39 U.vm ∧ U.heap = h0) (fun _ _ _ _ _ => True) (fun _ U o U' => ∃ v L, o = .returned v ∧ own_Q4 Z r0 q1 u1 (some (.long (own_f4 q1 u1))) h0 n0 v U'.heap L ∧ FrameEnd U o U' L own_room4.cells own_room4.slots) := by
  refine MetFree.of_bodySF (plainFor_of_name pn_4) hisR ?_
  intro p e s m args below meth c s₁ Bd hml0 hP hK
  obtain ⟨rfl, hZ, hh⟩ := hP
  have hx := Bd.exec
  have hby := Bd.bytes
  have hml : c.maxLocals = 3 := hml0
  have hown : s.vm.findClass "com/example/bound/bound/validation/TimestampBounds" = some m.cls := findClass_of_methodNamed Bd.named
  have hnm := (name_of_methodNamed Bd.named Bd.method).1
  have X0 : Stand p l e own_room4 s m #[(.ref r0), (.long q1)] below meth c s₁ [] 0 0 := Stand.of_body Bd
  have e0 : s₁.heap = h0 := by rw [← hh, Bd.state]; rfl
  have N0 := Fr.nil n0
  refine own_enter (ef_4 m r0 q1) ?_
  show own_Goes p.tables e below (s₁.setTop (mkF m 0 #[.val (.ref r0), .val (.long q1), .second] [])) (own_P s (own_Q4 Z r0 q1 u1 (some (.long (own_f4 q1 u1))) h0 n0) own_room4.cells own_room4.slots)
  refine own_step (fun _ => XS.lloadN X0.here hx rfl (hb hby d4_0) rfl) ?_
  show own_Goes p.tables e below (s₁.setTop (mkF m 1 #[.val (.ref r0), .val (.long q1), .second] [(.long q1)])) _
  refine own_step (X0.ldc2Long hx hown (mvT hZ (hw _ (List.mem_of_getElem? (i := 31) rfl))) (g := (mkF m 1 #[.val (.ref r0), .val (.long q1), .second] [(.long q1)])) rfl (hb hby d4_1)) ?_
  show own_Goes p.tables e below (s₁.setTop (mkF m 4 #[.val (.ref r0), .val (.long q1), .second] [(.long (-9223372036854775808 : Int64)), (.long q1)])) _
  refine own_step (fun _ => XS.aloadN X0.here hx rfl (hb hby d4_4) rfl rfl) ?_
  show own_Goes p.tables e below (s₁.setTop (mkF m 5 #[.val (.ref r0), .val (.long q1), .second] [(.ref r0), (.long (-9223372036854775808 : Int64)), (.long q1)])) _
  obtain ⟨T1, X1, e1, st1⟩ := getF X0 hx hZ hown (host := "") (Or.inl (hw _ (List.mem_of_getElem? (i := 21) rfl))) Via.refl e0 F_beforeMaxMs_r0 (g := (mkF m 5 #[.val (.ref r0), .val (.long q1), .second] [(.ref r0), (.long (-9223372036854775808 : Int64)), (.long q1)])) rfl rfl (hb hby d4_5)
  refine own_step (st1) ?_
  show own_Goes p.tables e below (T1.setTop (mkF m 8 #[.val (.ref r0), .val (.long q1), .second] [(.long u1), (.long (-9223372036854775808 : Int64)), (.long q1)])) _
  refine own_step (fun _ => XS.ladd X1.here hx rfl (hb hby d4_8) rfl) ?_
  show own_Goes p.tables e below (T1.setTop (mkF m 9 #[.val (.ref r0), .val (.long q1), .second] [(.long ((-9223372036854775808 : Int64) + u1)), (.long q1)])) _
  refine own_step (fun _ => Jvm.Free.XT.lcmp X1.here hx rfl (hb hby d4_9) rfl) ?_
  show own_Goes p.tables e below (T1.setTop (mkF m 10 #[.val (.ref r0), .val (.long q1), .second] [(.int (Jvm.Free.XT.cmpL q1 ((-9223372036854775808 : Int64) + u1)))])) _
  by_cases hc10 : q1 < ((-9223372036854775808 : Int64) + u1)
  · refine own_step (fun _ => XS.ifNo X1.here hx rfl (hb hby d4_10) rfl (Jvm.Free.XT.ll_ge_f hc10)) ?_
    show own_Goes p.tables e below (T1.setTop (mkF m 13 #[.val (.ref r0), .val (.long q1), .second] [])) _
    refine own_step (X1.ldc2Long hx hown (mvT hZ (hw _ (List.mem_of_getElem? (i := 31) rfl))) (g := (mkF m 13 #[.val (.ref r0), .val (.long q1), .second] [])) rfl (hb hby d4_13)) ?_
    show own_Goes p.tables e below (T1.setTop (mkF m 16 #[.val (.ref r0), .val (.long q1), .second] [(.long (-9223372036854775808 : Int64))])) _
    refine own_step (fun _ => XS.goto X1.here hx rfl (pc0 := 16) (pc' := 25) rfl (hb hby d4_16) (by decide) (by decide)) ?_
    show own_Goes p.tables e below (T1.setTop (mkF m 25 #[.val (.ref r0), .val (.long q1), .second] [(.long (-9223372036854775808 : Int64))])) _
    have hv : (own_f4 q1 u1) = (-9223372036854775808 : Int64) := by exact (if_pos hc10)
    rw [hv]
    exact own_retJ X1 hx Bd.returns (hb hby d4_25) (BodyLoose.notSynchronized Bd) (by rw [e1]; exact ⟨rfl, N0, (Keep.refl h0 []), (by first | exact E_r0 | (rw [if_pos hc10]; exact E_r0)), (by first | exact F_beforeMaxMs_r0 | (rw [if_pos hc10]; exact F_beforeMaxMs_r0))⟩) (by decide) (by decide)
  · refine own_step (fun _ => XS.ifYes X1.here hx rfl (pc0 := 10) (pc' := 19) rfl (hb hby d4_10) rfl (Jvm.Free.XT.ll_ge_t hc10) (by decide) (by decide)) ?_
    show own_Goes p.tables e below (T1.setTop (mkF m 19 #[.val (.ref r0), .val (.long q1), .second] [])) _
    refine own_step (fun _ => XS.lloadN X1.here hx rfl (hb hby d4_19) rfl) ?_
    show own_Goes p.tables e below (T1.setTop (mkF m 20 #[.val (.ref r0), .val (.long q1), .second] [(.long q1)])) _
    refine own_step (fun _ => XS.aloadN X1.here hx rfl (hb hby d4_20) rfl rfl) ?_
    show own_Goes p.tables e below (T1.setTop (mkF m 21 #[.val (.ref r0), .val (.long q1), .second] [(.ref r0), (.long q1)])) _
    obtain ⟨T2, X2, e2, st2⟩ := getF X1 hx hZ hown (host := "") (Or.inl (hw _ (List.mem_of_getElem? (i := 21) rfl))) Via.refl e1 F_beforeMaxMs_r0 (g := (mkF m 21 #[.val (.ref r0), .val (.long q1), .second] [(.ref r0), (.long q1)])) rfl rfl (hb hby d4_21)
    refine own_step (st2) ?_
    show own_Goes p.tables e below (T2.setTop (mkF m 24 #[.val (.ref r0), .val (.long q1), .second] [(.long u1), (.long q1)])) _
    refine own_step (fun _ => XS.lsub X2.here hx rfl (hb hby d4_24) rfl) ?_
    show own_Goes p.tables e below (T2.setTop (mkF m 25 #[.val (.ref r0), .val (.long q1), .second] [(.long (q1 - u1))])) _
    have hv : (own_f4 q1 u1) = (q1 - u1) := by exact (if_neg hc10)
    rw [hv]
    exact own_retJ X2 hx Bd.returns (hb hby d4_25) (BodyLoose.notSynchronized Bd) (by rw [e2]; exact ⟨rfl, N0, (Keep.refl h0 []), (by first | exact E_r0 | (rw [if_neg hc10]; exact E_r0)), (by first | exact F_beforeMaxMs_r0 | (rw [if_neg hc10]; exact F_beforeMaxMs_r0))⟩) (by decide) (by decide)
theorem pn_0 : plainName "com/example/bound/bound/validation/TimestampBoundsLowestPinLaw" = true := by first | (simp [plainName, overriddenIn]; done) | decide +kernel
theorem pd_0_0 : parseMethodDescriptor "(JJ)V" = some ⟨[.long, .long], none⟩ := by decide +kernel
theorem pd_0_1 : parseMethodDescriptor "(J)J" = some ⟨[.long], some .long⟩ := by decide +kernel
theorem ef_0 (m : MethodId) (q0 : Int64) (q1 : Int64) (q2 : Int64) (p3 : Int32) (p4 : Int32) : entryFrame m #[(.long q0), (.long q1), (.long q2), (.int p3), (.int p4)] maxLocals = mkF m 0 #[.val (.long q0), .second, .val (.long q1), .second, .val (.long q2), .second, .val (.int p3), .val (.int p4), .unset, .unset, .unset, .unset, .unset, .unset, .unset, .unset, .unset, .unset, .unset, .unset, .unset] [] := by first | (simp [entryFrame, mkF, argsToLocals, Value.category, maxLocals]; done) | rfl
def own_f0_85 (z60 : Int64) (w85_t0 : Int64) : Int32 :=
  if z60 = w85_t0 then
    (1 : Int32)
  else
    (0 : Int32)
def own_f0_38 (q1 : Int64) (w38_t0 : Int64) : Int32 :=
  let z60 : Int64 := (own_f4 w38_t0 (q1 &&& (9223372036854775807 : Int64)))
  let z67 : Int64 := (w38_t0 - (q1 &&& (9223372036854775807 : Int64)))
  if w38_t0 < z67 then
    (own_f0_85 z60 (-9223372036854775808 : Int64))
  else
    (own_f0_85 z60 z67)
def own_f0 (q0 : Int64) (q1 : Int64) (q2 : Int64) (p3 : Int32) (p4 : Int32) : Int32 :=
  if (p3 &&& (1 : Int32)) = 0 then
    (own_f0_38 q1 q0)
  else
    (own_f0_38 q1 (((-9223372036854775808 : Int64) + (q1 &&& (9223372036854775807 : Int64))) + ((p4 - p4 / (4 : Int32) * (4 : Int32)).toInt64)))
set_option maxRecDepth 65536 in
set_option maxHeartbeats 40000000 in
theorem rm0 (l : Launch) (Z : State) (a0 : Array Value) (hw : ∀ d ∈ tables_1, d.before a0 Z = true) (ws : List Jvm.Cond) (q0 : Int64) (q1 : Int64) (q2 : Int64) (p3 : Int32) (p4 : Int32) (h0 : Heap) (n0 : Nat) (Z0 : n0 ≤ h0.size) :
    MetFree l x (head1 (Jvm.Cond.code x code maxLocals ret :: ws) room_1) (fun a U => a = #[(.long q0), (.long q1), (.long q2), (.int p3), (.int p4)] ∧ Z.Warmed39 U.vm ∧ U.heap = h0) (fun _ _ _ _ _ => True) (fun _ U o U' => ∃ v L, o = .returned v ∧ own_Ql (some (.int (own_f0 q0 q1 q2 p3 p4))) n0 v U'.heap L ∧ ReturnedEndW U o U' L 5 286) := by
  refine MetFree.of_bodySF (plainFor_of_name pn_0) hisR ?_
  intro p e s m args below meth c s₁ Bd hml0 hP hK
  obtain ⟨rfl, hZ, hh⟩ := hP
  have hx := Bd.exec
  have hby := Bd.bytes
  have hml : c.maxLocals = 21 := hml0
  have hown : s.vm.findClass "com/example/bound/bound/validation/TimestampBoundsLowestPinLaw" = some m.cls := findClass_of_methodNamed Bd.named
  have hnm := (name_of_methodNamed Bd.named Bd.method).1
  have X0 : Stand p l e room_1 s m #[(.long q0), (.long q1), (.long q2), (.int p3), (.int p4)] below meth c s₁ [] 0 0 := Stand.of_body Bd
  have e0 : s₁.heap = h0 := by rw [← hh, Bd.state]; rfl
  have N0 := Fr.nil n0
  have hS : s.Since s.vm h0.size := (State.WarmedH.refl s).since _
  have hk : h0.size ≤ h0.size := Nat.le_refl _
  have X0 : Stand p l e room_1 (s.setVm s.vm) m #[(.long q0), (.long q1), (.long q2), (.int p3), (.int p4)] below meth c s₁ [] 0 0 := X0
  refine own_enter (ef_0 m q0 q1 q2 p3 p4) ?_
  show own_Goes p.tables e below (s₁.setTop (mkF m 0 #[.val (.long q0), .second, .val (.long q1), .second, .val (.long q2), .second, .val (.int p3), .val (.int p4), .unset, .unset, .unset, .unset, .unset, .unset, .unset, .unset, .unset, .unset, .unset, .unset, .unset] [])) (own_PW s (own_Ql (some (.int (own_f0 q0 q1 q2 p3 p4))) n0) 5 286)
  refine own_step (fun _ => XS.lloadN X0.here hx rfl (hb hby at_0) rfl) ?_
  show own_Goes p.tables e below (s₁.setTop (mkF m 1 #[.val (.long q0), .second, .val (.long q1), .second, .val (.long q2), .second, .val (.int p3), .val (.int p4), .unset, .unset, .unset, .unset, .unset, .unset, .unset, .unset, .unset, .unset, .unset, .unset, .unset] [(.long q1)])) _
  refine own_step (X0.ldc2Long hx hown (mvT hZ (hw _ (List.mem_of_getElem? (i := 0) rfl))) (g := (mkF m 1 #[.val (.long q0), .second, .val (.long q1), .second, .val (.long q2), .second, .val (.int p3), .val (.int p4), .unset, .unset, .unset, .unset, .unset, .unset, .unset, .unset, .unset, .unset, .unset, .unset, .unset] [(.long q1)])) rfl (hb hby at_1)) ?_
  show own_Goes p.tables e below (s₁.setTop (mkF m 4 #[.val (.long q0), .second, .val (.long q1), .second, .val (.long q2), .second, .val (.int p3), .val (.int p4), .unset, .unset, .unset, .unset, .unset, .unset, .unset, .unset, .unset, .unset, .unset, .unset, .unset] [(.long (9223372036854775807 : Int64)), (.long q1)])) _
  refine own_step (fun _ => XS.land X0.here hx rfl (hb hby at_4) rfl) ?_
  show own_Goes p.tables e below (s₁.setTop (mkF m 5 #[.val (.long q0), .second, .val (.long q1), .second, .val (.long q2), .second, .val (.int p3), .val (.int p4), .unset, .unset, .unset, .unset, .unset, .unset, .unset, .unset, .unset, .unset, .unset, .unset, .unset] [(.long (q1 &&& (9223372036854775807 : Int64)))])) _
  refine own_step (fun _ => XS.lstore X0.here hx rfl (hb hby at_5) rfl (l' := #[.val (.long q0), .second, .val (.long q1), .second, .val (.long q2), .second, .val (.int p3), .val (.int p4), .val (.long (q1 &&& (9223372036854775807 : Int64))), .second, .unset, .unset, .unset, .unset, .unset, .unset, .unset, .unset, .unset, .unset, .unset]) rfl) ?_
  show own_Goes p.tables e below (s₁.setTop (mkF m 7 #[.val (.long q0), .second, .val (.long q1), .second, .val (.long q2), .second, .val (.int p3), .val (.int p4), .val (.long (q1 &&& (9223372036854775807 : Int64))), .second, .unset, .unset, .unset, .unset, .unset, .unset, .unset, .unset, .unset, .unset, .unset] [])) _
  refine own_step (fun _ => XS.lload X0.here hx rfl (hb hby at_7) rfl) ?_
  show own_Goes p.tables e below (s₁.setTop (mkF m 9 #[.val (.long q0), .second, .val (.long q1), .second, .val (.long q2), .second, .val (.int p3), .val (.int p4), .val (.long (q1 &&& (9223372036854775807 : Int64))), .second, .unset, .unset, .unset, .unset, .unset, .unset, .unset, .unset, .unset, .unset, .unset] [(.long q2)])) _
  refine own_step (X0.ldc2Long hx hown (mvT hZ (hw _ (List.mem_of_getElem? (i := 0) rfl))) (g := (mkF m 9 #[.val (.long q0), .second, .val (.long q1), .second, .val (.long q2), .second, .val (.int p3), .val (.int p4), .val (.long (q1 &&& (9223372036854775807 : Int64))), .second, .unset, .unset, .unset, .unset, .unset, .unset, .unset, .unset, .unset, .unset, .unset] [(.long q2)])) rfl (hb hby at_9)) ?_
  show own_Goes p.tables e below (s₁.setTop (mkF m 12 #[.val (.long q0), .second, .val (.long q1), .second, .val (.long q2), .second, .val (.int p3), .val (.int p4), .val (.long (q1 &&& (9223372036854775807 : Int64))), .second, .unset, .unset, .unset, .unset, .unset, .unset, .unset, .unset, .unset, .unset, .unset] [(.long (9223372036854775807 : Int64)), (.long q2)])) _
  refine own_step (fun _ => XS.land X0.here hx rfl (hb hby at_12) rfl) ?_
  show own_Goes p.tables e below (s₁.setTop (mkF m 13 #[.val (.long q0), .second, .val (.long q1), .second, .val (.long q2), .second, .val (.int p3), .val (.int p4), .val (.long (q1 &&& (9223372036854775807 : Int64))), .second, .unset, .unset, .unset, .unset, .unset, .unset, .unset, .unset, .unset, .unset, .unset] [(.long (q2 &&& (9223372036854775807 : Int64)))])) _
  refine own_step (fun _ => XS.lstore X0.here hx rfl (hb hby at_13) rfl (l' := #[.val (.long q0), .second, .val (.long q1), .second, .val (.long q2), .second, .val (.int p3), .val (.int p4), .val (.long (q1 &&& (9223372036854775807 : Int64))), .second, .val (.long (q2 &&& (9223372036854775807 : Int64))), .second, .unset, .unset, .unset, .unset, .unset, .unset, .unset, .unset, .unset]) rfl) ?_
  show own_Goes p.tables e below (s₁.setTop (mkF m 15 #[.val (.long q0), .second, .val (.long q1), .second, .val (.long q2), .second, .val (.int p3), .val (.int p4), .val (.long (q1 &&& (9223372036854775807 : Int64))), .second, .val (.long (q2 &&& (9223372036854775807 : Int64))), .second, .unset, .unset, .unset, .unset, .unset, .unset, .unset, .unset, .unset] [])) _
  refine own_step (fun _ => XS.iload X0.here hx rfl (hb hby at_15) rfl) ?_
  show own_Goes p.tables e below (s₁.setTop (mkF m 17 #[.val (.long q0), .second, .val (.long q1), .second, .val (.long q2), .second, .val (.int p3), .val (.int p4), .val (.long (q1 &&& (9223372036854775807 : Int64))), .second, .val (.long (q2 &&& (9223372036854775807 : Int64))), .second, .unset, .unset, .unset, .unset, .unset, .unset, .unset, .unset, .unset] [(.int p3)])) _
  refine own_step (fun _ => XS.iconst X0.here hx rfl (hb hby at_17)) ?_
  show own_Goes p.tables e below (s₁.setTop (mkF m 18 #[.val (.long q0), .second, .val (.long q1), .second, .val (.long q2), .second, .val (.int p3), .val (.int p4), .val (.long (q1 &&& (9223372036854775807 : Int64))), .second, .val (.long (q2 &&& (9223372036854775807 : Int64))), .second, .unset, .unset, .unset, .unset, .unset, .unset, .unset, .unset, .unset] [(.int (1 : Int32)), (.int p3)])) _
  refine own_step (fun _ => XS.iand X0.here hx rfl (hb hby at_18) rfl) ?_
  show own_Goes p.tables e below (s₁.setTop (mkF m 19 #[.val (.long q0), .second, .val (.long q1), .second, .val (.long q2), .second, .val (.int p3), .val (.int p4), .val (.long (q1 &&& (9223372036854775807 : Int64))), .second, .val (.long (q2 &&& (9223372036854775807 : Int64))), .second, .unset, .unset, .unset, .unset, .unset, .unset, .unset, .unset, .unset] [(.int (p3 &&& (1 : Int32)))])) _
  have J38 : ∀ (T_38 : State) (X_38 : Stand p l e room_1 (s.setVm s.vm) m #[(.long q0), (.long q1), (.long q2), (.int p3), (.int p4)] below meth c T_38 [] 0 0) (e_38 : T_38.heap = h0) (w38_t0 : Int64), own_Goes p.tables e below (T_38.setTop (mkF m 38 #[.val (.long q0), .second, .val (.long q1), .second, .val (.long q2), .second, .val (.int p3), .val (.int p4), .val (.long (q1 &&& (9223372036854775807 : Int64))), .second, .val (.long (q2 &&& (9223372036854775807 : Int64))), .second, .unset, .unset, .unset, .unset, .unset, .unset, .unset, .unset, .unset] [(.long w38_t0)])) (own_PW s (own_Ql (some (.int (own_f0_38 q1 w38_t0))) n0) 5 286) := by
    intro T_38 X_38 e_38 w38_t0
    refine own_step (fun _ => XS.lstore X_38.here hx rfl (hb hby at_38) rfl (l' := #[.val (.long q0), .second, .val (.long q1), .second, .val (.long q2), .second, .val (.int p3), .val (.int p4), .val (.long (q1 &&& (9223372036854775807 : Int64))), .second, .val (.long (q2 &&& (9223372036854775807 : Int64))), .second, .val (.long w38_t0), .second, .unset, .unset, .unset, .unset, .unset, .unset, .unset]) rfl) ?_
    show own_Goes p.tables e below (T_38.setTop (mkF m 40 #[.val (.long q0), .second, .val (.long q1), .second, .val (.long q2), .second, .val (.int p3), .val (.int p4), .val (.long (q1 &&& (9223372036854775807 : Int64))), .second, .val (.long (q2 &&& (9223372036854775807 : Int64))), .second, .val (.long w38_t0), .second, .unset, .unset, .unset, .unset, .unset, .unset, .unset] [])) _
    obtain ⟨T1, h1, X1, e1, E1, A1, D1, -, st1⟩ := newO X_38 hx hZ hown (hw _ (List.mem_of_getElem? (i := 1) rfl)) (hw _ (List.mem_of_getElem? (i := 2) rfl)) (hw _ (List.mem_of_getElem? (i := 3) rfl)) e_38 (g := (mkF m 40 #[.val (.long q0), .second, .val (.long q1), .second, .val (.long q2), .second, .val (.int p3), .val (.int p4), .val (.long (q1 &&& (9223372036854775807 : Int64))), .second, .val (.long (q2 &&& (9223372036854775807 : Int64))), .second, .val (.long w38_t0), .second, .unset, .unset, .unset, .unset, .unset, .unset, .unset] [])) rfl (hb hby at_40) (by decide) (by decide)
    obtain ⟨b40, g1⟩ : ∃ z, z = h0.size := ⟨_, rfl⟩
    rw [← g1] at A1 D1 st1
    have g_b40 : n0 ≤ b40 := Nat.le_trans Z0 (Nat.le_of_eq g1.symm)
    have sz_b40 : h0.size ≤ b40 := Nat.le_trans (Keep.refl h0 []).1 (Nat.le_of_eq g1.symm)
    have K1 : Keep h0 h1 [] := (Keep.refl h0 []).ext E1
    have Z1 : n0 ≤ h1.size := Nat.le_trans Z0 E1.1
    have hk := Nat.le_trans hk E1.1
    have F_beforeMaxMs_b40 : Fld Z h1 b40 "com/example/bound/bound/validation/TimestampBounds" "beforeMaxMs" "J" (.long (0 : Int64)) := D1 (Or.inr (hw _ (List.mem_of_getElem? (i := 22) rfl))) (ty := .long) (by decide)
    have F_afterMaxMs_b40 : Fld Z h1 b40 "com/example/bound/bound/validation/TimestampBounds" "afterMaxMs" "J" (.long (0 : Int64)) := D1 (Or.inr (hw _ (List.mem_of_getElem? (i := 25) rfl))) (ty := .long) (by decide)
    refine own_step (st1) ?_
    show own_Goes p.tables e below (T1.setTop (mkF m 43 #[.val (.long q0), .second, .val (.long q1), .second, .val (.long q2), .second, .val (.int p3), .val (.int p4), .val (.long (q1 &&& (9223372036854775807 : Int64))), .second, .val (.long (q2 &&& (9223372036854775807 : Int64))), .second, .val (.long w38_t0), .second, .unset, .unset, .unset, .unset, .unset, .unset, .unset] [(.ref b40)])) _
    refine own_step (fun _ => XS.dup X1.here hx rfl (hb hby at_43) rfl rfl) ?_
    show own_Goes p.tables e below (T1.setTop (mkF m 44 #[.val (.long q0), .second, .val (.long q1), .second, .val (.long q2), .second, .val (.int p3), .val (.int p4), .val (.long (q1 &&& (9223372036854775807 : Int64))), .second, .val (.long (q2 &&& (9223372036854775807 : Int64))), .second, .val (.long w38_t0), .second, .unset, .unset, .unset, .unset, .unset, .unset, .unset] [(.ref b40), (.ref b40)])) _
    refine own_step (fun _ => XS.lload X1.here hx rfl (hb hby at_44) rfl) ?_
    show own_Goes p.tables e below (T1.setTop (mkF m 46 #[.val (.long q0), .second, .val (.long q1), .second, .val (.long q2), .second, .val (.int p3), .val (.int p4), .val (.long (q1 &&& (9223372036854775807 : Int64))), .second, .val (.long (q2 &&& (9223372036854775807 : Int64))), .second, .val (.long w38_t0), .second, .unset, .unset, .unset, .unset, .unset, .unset, .unset] [(.long (q1 &&& (9223372036854775807 : Int64))), (.ref b40), (.ref b40)])) _
    refine own_step (fun _ => XS.lload X1.here hx rfl (hb hby at_46) rfl) ?_
    show own_Goes p.tables e below (T1.setTop (mkF m 48 #[.val (.long q0), .second, .val (.long q1), .second, .val (.long q2), .second, .val (.int p3), .val (.int p4), .val (.long (q1 &&& (9223372036854775807 : Int64))), .second, .val (.long (q2 &&& (9223372036854775807 : Int64))), .second, .val (.long w38_t0), .second, .unset, .unset, .unset, .unset, .unset, .unset, .unset] [(.long (q2 &&& (9223372036854775807 : Int64))), (.long (q1 &&& (9223372036854775807 : Int64))), (.ref b40), (.ref b40)])) _
    obtain ⟨_, _, ⟨T2, L2, k2, n2⟩, -, X2, hS2, hg2, ⟨Lc2, hQ2, l2, y2, z2⟩, st2⟩ := X1.specialBackS hx (y := (⟨"com/example/bound/bound/validation/TimestampBounds", "<init>", "(JJ)V"⟩ : MethodName)) rfl hown (mvT hZ (hw _ (List.mem_of_getElem? (i := 4) rfl))) (mvT hZ (hw _ (List.mem_of_getElem? (i := 5) rfl))) (mvT hZ (hw _ (List.mem_of_getElem? (i := 6) rfl))) (by decide) (backOfS (W := 1) (rm1 l Z a0 hw [] b40 (q1 &&& (9223372036854775807 : Int64)) (q2 &&& (9223372036854775807 : Int64)) (0 : Int64) (0 : Int64) h1 n0 Z1 A1 F_beforeMaxMs_b40 F_afterMaxMs_b40 g_b40 (own_nn _) (own_nn _)) hZ (hw _ (List.mem_of_getElem? (i := 6) rfl)) (hw _ (List.mem_of_getElem? (i := 3) rfl)) (by decide) (by decide)) (g := (mkF m 48 #[.val (.long q0), .second, .val (.long q1), .second, .val (.long q2), .second, .val (.int p3), .val (.int p4), .val (.long (q1 &&& (9223372036854775807 : Int64))), .second, .val (.long (q2 &&& (9223372036854775807 : Int64))), .second, .val (.long w38_t0), .second, .unset, .unset, .unset, .unset, .unset, .unset, .unset] [(.long (q2 &&& (9223372036854775807 : Int64))), (.long (q1 &&& (9223372036854775807 : Int64))), (.ref b40), (.ref b40)])) rfl (by rw [hml]; rfl) (Steps.refl _) (a := b40) (argsL := [(.long (q1 &&& (9223372036854775807 : Int64))), (.long (q2 &&& (9223372036854775807 : Int64)))]) (rest := [(.ref b40)]) (lenOf pd_0_0 rfl) rfl (by show 2 * 0 + _ ≤ _; exact Nat.le_of_eq rfl) (hb hby at_48) (fun _ _ => ⟨rfl, e1, (by decide : (0 + 1) + 4 ≤ _), (by decide : (0 + 2) + 284 ≤ _)⟩)
    dsimp only [Pt.U, Pt.locs, Pt.cells, Pt.slots] at X2 l2 y2 z2 st2 hQ2 hS2 hg2
    subst y2 z2
    obtain ⟨rfl, Nq2, Kq2, E_b40_2, F_beforeMaxMs_b40_2, F_afterMaxMs_b40_2⟩ := hQ2
    have N2 : Fr n0 L2 := by rw [l2]; exact Fr.app N0 Nq2
    have Z2 : n0 ≤ T2.heap.size := Nat.le_trans Z1 Kq2.1
    have K2 : Keep h0 T2.heap [] := K1.trans Kq2 (allS (Or.inr sz_b40) all0)
    have hZ : Z.Warmed39 (s.setVm T2.vm).vm := State.Warmed39.trans (t := (s.setVm s.vm)) hZ hS2.1
    have hown : (s.setVm T2.vm).vm.findClass "com/example/bound/bound/validation/TimestampBoundsLowestPinLaw" = some m.cls := by rw [show (s.setVm T2.vm).vm = T2.vm from rfl, hS2.1.alike.findClass]; exact hown
    have hS : s.Since T2.vm T2.heap.size := foldS hS (by rw [e1]; exact hk) hS2 hg2
    have hk : T2.heap.size ≤ T2.heap.size := Nat.le_refl _
    refine own_step (fun _ k => st2.trans k) ?_
    show own_Goes p.tables e below (T2.setTop (mkF m 51 #[.val (.long q0), .second, .val (.long q1), .second, .val (.long q2), .second, .val (.int p3), .val (.int p4), .val (.long (q1 &&& (9223372036854775807 : Int64))), .second, .val (.long (q2 &&& (9223372036854775807 : Int64))), .second, .val (.long w38_t0), .second, .unset, .unset, .unset, .unset, .unset, .unset, .unset] [(.ref b40)])) _
    refine own_step (fun _ => XS.astore X2.here hx rfl (hb hby at_51) rfl rfl (l' := #[.val (.long q0), .second, .val (.long q1), .second, .val (.long q2), .second, .val (.int p3), .val (.int p4), .val (.long (q1 &&& (9223372036854775807 : Int64))), .second, .val (.long (q2 &&& (9223372036854775807 : Int64))), .second, .val (.long w38_t0), .second, .val (.ref b40), .unset, .unset, .unset, .unset, .unset, .unset]) rfl) ?_
    show own_Goes p.tables e below (T2.setTop (mkF m 53 #[.val (.long q0), .second, .val (.long q1), .second, .val (.long q2), .second, .val (.int p3), .val (.int p4), .val (.long (q1 &&& (9223372036854775807 : Int64))), .second, .val (.long (q2 &&& (9223372036854775807 : Int64))), .second, .val (.long w38_t0), .second, .val (.ref b40), .unset, .unset, .unset, .unset, .unset, .unset] [])) _
    refine own_step (fun _ => XS.aload X2.here hx rfl (hb hby at_53) rfl rfl) ?_
    show own_Goes p.tables e below (T2.setTop (mkF m 55 #[.val (.long q0), .second, .val (.long q1), .second, .val (.long q2), .second, .val (.int p3), .val (.int p4), .val (.long (q1 &&& (9223372036854775807 : Int64))), .second, .val (.long (q2 &&& (9223372036854775807 : Int64))), .second, .val (.long w38_t0), .second, .val (.ref b40), .unset, .unset, .unset, .unset, .unset, .unset] [(.ref b40)])) _
    refine own_step (fun _ => XS.lload X2.here hx rfl (hb hby at_55) rfl) ?_
    show own_Goes p.tables e below (T2.setTop (mkF m 57 #[.val (.long q0), .second, .val (.long q1), .second, .val (.long q2), .second, .val (.int p3), .val (.int p4), .val (.long (q1 &&& (9223372036854775807 : Int64))), .second, .val (.long (q2 &&& (9223372036854775807 : Int64))), .second, .val (.long w38_t0), .second, .val (.ref b40), .unset, .unset, .unset, .unset, .unset, .unset] [(.long w38_t0), (.ref b40)])) _
    obtain ⟨cq3, kq3, q3a, q3b, q3c⟩ := isOf hZ rfl E_b40_2
    obtain ⟨_, _, ⟨T3, L3, k3, n3⟩, -, X3, ⟨Lc3, hQ3, l3, y3, z3⟩, st3⟩ := X2.virtualBack hx (y := (⟨"com/example/bound/bound/validation/TimestampBounds", "lowest", "(J)J"⟩ : MethodName)) (z := (⟨"com/example/bound/bound/validation/TimestampBounds", "lowest", "(J)J"⟩ : MethodName)) hown (mvT hZ (hw _ (List.mem_of_getElem? (i := 26) rfl))) (mvT hZ (hw _ (List.mem_of_getElem? (i := 27) rfl))) (notFace_of_selects (args := #[]) (mvT hZ (hw _ (List.mem_of_getElem? (i := 29) rfl)))) (mvT hZ (hw _ (List.mem_of_getElem? (i := 29) rfl))) (mvT hZ (hw _ (List.mem_of_getElem? (i := 28) rfl))) (by decide) (backOf (W := 0) (rm4 l Z a0 hw [] b40 w38_t0 (q1 &&& (9223372036854775807 : Int64)) T2.heap n0 Z2 E_b40_2 F_beforeMaxMs_b40_2) hZ (hw _ (List.mem_of_getElem? (i := 30) rfl)) (hw _ (List.mem_of_getElem? (i := 3) rfl)) (by decide) (by decide)) q3a q3c (g := (mkF m 57 #[.val (.long q0), .second, .val (.long q1), .second, .val (.long q2), .second, .val (.int p3), .val (.int p4), .val (.long (q1 &&& (9223372036854775807 : Int64))), .second, .val (.long (q2 &&& (9223372036854775807 : Int64))), .second, .val (.long w38_t0), .second, .val (.ref b40), .unset, .unset, .unset, .unset, .unset, .unset] [(.long w38_t0), (.ref b40)])) rfl (by rw [hml]; rfl) (Steps.refl _) (argsL := [(.long w38_t0)]) (rest := []) (lenOf pd_0_1 rfl) rfl (by show 2 * 0 + _ ≤ _; exact Nat.le_of_eq rfl) (hb hby at_57) (fun _ _ => ⟨rfl, rfl, (by decide : ((0 + 1) + 4) + 0 ≤ _), (by decide : ((0 + 2) + 284) + 0 ≤ _)⟩)
    dsimp only [Pt.U, Pt.locs, Pt.cells, Pt.slots] at X3 l3 y3 z3 st3 hQ3
    subst y3 z3
    obtain ⟨rfl, Nq3, Kq3, E_b40_3, F_beforeMaxMs_b40_3⟩ := hQ3
    have N3 : Fr n0 L3 := by rw [l3]; exact Fr.app N2 Nq3
    have Z3 : n0 ≤ T3.heap.size := Nat.le_trans Z2 Kq3.1
    have hk := Nat.le_trans hk Kq3.1
    have K3 : Keep h0 T3.heap [] := K2.trans Kq3 all0
    have E_b40_3 : Exa Z T3.heap b40 "com/example/bound/bound/validation/TimestampBounds" := E_b40_2.keep Kq3
    refine own_step (fun _ k => st3.trans k) ?_
    show own_Goes p.tables e below (T3.setTop (mkF m 60 #[.val (.long q0), .second, .val (.long q1), .second, .val (.long q2), .second, .val (.int p3), .val (.int p4), .val (.long (q1 &&& (9223372036854775807 : Int64))), .second, .val (.long (q2 &&& (9223372036854775807 : Int64))), .second, .val (.long w38_t0), .second, .val (.ref b40), .unset, .unset, .unset, .unset, .unset, .unset] [(.long (own_f4 w38_t0 (q1 &&& (9223372036854775807 : Int64))))])) _
    obtain ⟨z60, hz60⟩ : ∃ z : Int64, z = (own_f4 w38_t0 (q1 &&& (9223372036854775807 : Int64))) := ⟨_, rfl⟩
    refine own_step (fun _ => XS.lstore X3.here hx rfl (hb hby at_60) rfl (l' := #[.val (.long q0), .second, .val (.long q1), .second, .val (.long q2), .second, .val (.int p3), .val (.int p4), .val (.long (q1 &&& (9223372036854775807 : Int64))), .second, .val (.long (q2 &&& (9223372036854775807 : Int64))), .second, .val (.long w38_t0), .second, .val (.ref b40), .val (.long z60), .second, .unset, .unset, .unset, .unset]) (by subst hz60; rfl)) ?_
    show own_Goes p.tables e below (T3.setTop (mkF m 62 #[.val (.long q0), .second, .val (.long q1), .second, .val (.long q2), .second, .val (.int p3), .val (.int p4), .val (.long (q1 &&& (9223372036854775807 : Int64))), .second, .val (.long (q2 &&& (9223372036854775807 : Int64))), .second, .val (.long w38_t0), .second, .val (.ref b40), .val (.long z60), .second, .unset, .unset, .unset, .unset] [])) _
    refine own_step (fun _ => XS.lload X3.here hx rfl (hb hby at_62) rfl) ?_
    show own_Goes p.tables e below (T3.setTop (mkF m 64 #[.val (.long q0), .second, .val (.long q1), .second, .val (.long q2), .second, .val (.int p3), .val (.int p4), .val (.long (q1 &&& (9223372036854775807 : Int64))), .second, .val (.long (q2 &&& (9223372036854775807 : Int64))), .second, .val (.long w38_t0), .second, .val (.ref b40), .val (.long z60), .second, .unset, .unset, .unset, .unset] [(.long w38_t0)])) _
    refine own_step (fun _ => XS.lload X3.here hx rfl (hb hby at_64) rfl) ?_
    show own_Goes p.tables e below (T3.setTop (mkF m 66 #[.val (.long q0), .second, .val (.long q1), .second, .val (.long q2), .second, .val (.int p3), .val (.int p4), .val (.long (q1 &&& (9223372036854775807 : Int64))), .second, .val (.long (q2 &&& (9223372036854775807 : Int64))), .second, .val (.long w38_t0), .second, .val (.ref b40), .val (.long z60), .second, .unset, .unset, .unset, .unset] [(.long (q1 &&& (9223372036854775807 : Int64))), (.long w38_t0)])) _
    refine own_step (fun _ => XS.lsub X3.here hx rfl (hb hby at_66) rfl) ?_
    show own_Goes p.tables e below (T3.setTop (mkF m 67 #[.val (.long q0), .second, .val (.long q1), .second, .val (.long q2), .second, .val (.int p3), .val (.int p4), .val (.long (q1 &&& (9223372036854775807 : Int64))), .second, .val (.long (q2 &&& (9223372036854775807 : Int64))), .second, .val (.long w38_t0), .second, .val (.ref b40), .val (.long z60), .second, .unset, .unset, .unset, .unset] [(.long (w38_t0 - (q1 &&& (9223372036854775807 : Int64))))])) _
    obtain ⟨z67, hz67⟩ : ∃ z : Int64, z = (w38_t0 - (q1 &&& (9223372036854775807 : Int64))) := ⟨_, rfl⟩
    refine own_step (fun _ => XS.lstore X3.here hx rfl (hb hby at_67) rfl (l' := #[.val (.long q0), .second, .val (.long q1), .second, .val (.long q2), .second, .val (.int p3), .val (.int p4), .val (.long (q1 &&& (9223372036854775807 : Int64))), .second, .val (.long (q2 &&& (9223372036854775807 : Int64))), .second, .val (.long w38_t0), .second, .val (.ref b40), .val (.long z60), .second, .val (.long z67), .second, .unset, .unset]) (by subst hz67; rfl)) ?_
    show own_Goes p.tables e below (T3.setTop (mkF m 69 #[.val (.long q0), .second, .val (.long q1), .second, .val (.long q2), .second, .val (.int p3), .val (.int p4), .val (.long (q1 &&& (9223372036854775807 : Int64))), .second, .val (.long (q2 &&& (9223372036854775807 : Int64))), .second, .val (.long w38_t0), .second, .val (.ref b40), .val (.long z60), .second, .val (.long z67), .second, .unset, .unset] [])) _
    refine own_step (fun _ => XS.lload X3.here hx rfl (hb hby at_69) rfl) ?_
    show own_Goes p.tables e below (T3.setTop (mkF m 71 #[.val (.long q0), .second, .val (.long q1), .second, .val (.long q2), .second, .val (.int p3), .val (.int p4), .val (.long (q1 &&& (9223372036854775807 : Int64))), .second, .val (.long (q2 &&& (9223372036854775807 : Int64))), .second, .val (.long w38_t0), .second, .val (.ref b40), .val (.long z60), .second, .val (.long z67), .second, .unset, .unset] [(.long z67)])) _
    refine own_step (fun _ => XS.lload X3.here hx rfl (hb hby at_71) rfl) ?_
    show own_Goes p.tables e below (T3.setTop (mkF m 73 #[.val (.long q0), .second, .val (.long q1), .second, .val (.long q2), .second, .val (.int p3), .val (.int p4), .val (.long (q1 &&& (9223372036854775807 : Int64))), .second, .val (.long (q2 &&& (9223372036854775807 : Int64))), .second, .val (.long w38_t0), .second, .val (.ref b40), .val (.long z60), .second, .val (.long z67), .second, .unset, .unset] [(.long w38_t0), (.long z67)])) _
    refine own_step (fun _ => Jvm.Free.XT.lcmp X3.here hx rfl (hb hby at_73) rfl) ?_
    show own_Goes p.tables e below (T3.setTop (mkF m 74 #[.val (.long q0), .second, .val (.long q1), .second, .val (.long q2), .second, .val (.int p3), .val (.int p4), .val (.long (q1 &&& (9223372036854775807 : Int64))), .second, .val (.long (q2 &&& (9223372036854775807 : Int64))), .second, .val (.long w38_t0), .second, .val (.ref b40), .val (.long z60), .second, .val (.long z67), .second, .unset, .unset] [(.int (Jvm.Free.XT.cmpL z67 w38_t0))])) _
    have J85 : ∀ (T_85 : State) (X_85 : Stand p l e room_1 (s.setVm T2.vm) m #[(.long q0), (.long q1), (.long q2), (.int p3), (.int p4)] below meth c T_85 L3 (((0 + 1) + 4) + 0) (((0 + 2) + 284) + 0)) (e_85 : T_85.heap = T3.heap) (w85_t0 : Int64), own_Goes p.tables e below (T_85.setTop (mkF m 85 #[.val (.long q0), .second, .val (.long q1), .second, .val (.long q2), .second, .val (.int p3), .val (.int p4), .val (.long (q1 &&& (9223372036854775807 : Int64))), .second, .val (.long (q2 &&& (9223372036854775807 : Int64))), .second, .val (.long w38_t0), .second, .val (.ref b40), .val (.long z60), .second, .val (.long z67), .second, .unset, .unset] [(.long w85_t0)])) (own_PW s (own_Ql (some (.int (own_f0_85 z60 w85_t0))) n0) 5 286) := by
      intro T_85 X_85 e_85 w85_t0
      refine own_step (fun _ => XS.lstore X_85.here hx rfl (hb hby at_85) rfl (l' := #[.val (.long q0), .second, .val (.long q1), .second, .val (.long q2), .second, .val (.int p3), .val (.int p4), .val (.long (q1 &&& (9223372036854775807 : Int64))), .second, .val (.long (q2 &&& (9223372036854775807 : Int64))), .second, .val (.long w38_t0), .second, .val (.ref b40), .val (.long z60), .second, .val (.long z67), .second, .val (.long w85_t0), .second]) rfl) ?_
      show own_Goes p.tables e below (T_85.setTop (mkF m 87 #[.val (.long q0), .second, .val (.long q1), .second, .val (.long q2), .second, .val (.int p3), .val (.int p4), .val (.long (q1 &&& (9223372036854775807 : Int64))), .second, .val (.long (q2 &&& (9223372036854775807 : Int64))), .second, .val (.long w38_t0), .second, .val (.ref b40), .val (.long z60), .second, .val (.long z67), .second, .val (.long w85_t0), .second] [])) _
      refine own_step (fun _ => XS.lload X_85.here hx rfl (hb hby at_87) rfl) ?_
      show own_Goes p.tables e below (T_85.setTop (mkF m 89 #[.val (.long q0), .second, .val (.long q1), .second, .val (.long q2), .second, .val (.int p3), .val (.int p4), .val (.long (q1 &&& (9223372036854775807 : Int64))), .second, .val (.long (q2 &&& (9223372036854775807 : Int64))), .second, .val (.long w38_t0), .second, .val (.ref b40), .val (.long z60), .second, .val (.long z67), .second, .val (.long w85_t0), .second] [(.long z60)])) _
      refine own_step (fun _ => XS.lload X_85.here hx rfl (hb hby at_89) rfl) ?_
      show own_Goes p.tables e below (T_85.setTop (mkF m 91 #[.val (.long q0), .second, .val (.long q1), .second, .val (.long q2), .second, .val (.int p3), .val (.int p4), .val (.long (q1 &&& (9223372036854775807 : Int64))), .second, .val (.long (q2 &&& (9223372036854775807 : Int64))), .second, .val (.long w38_t0), .second, .val (.ref b40), .val (.long z60), .second, .val (.long z67), .second, .val (.long w85_t0), .second] [(.long w85_t0), (.long z60)])) _
      refine own_step (fun _ => Jvm.Free.XT.lcmp X_85.here hx rfl (hb hby at_91) rfl) ?_
      show own_Goes p.tables e below (T_85.setTop (mkF m 92 #[.val (.long q0), .second, .val (.long q1), .second, .val (.long q2), .second, .val (.int p3), .val (.int p4), .val (.long (q1 &&& (9223372036854775807 : Int64))), .second, .val (.long (q2 &&& (9223372036854775807 : Int64))), .second, .val (.long w38_t0), .second, .val (.ref b40), .val (.long z60), .second, .val (.long z67), .second, .val (.long w85_t0), .second] [(.int (Jvm.Free.XT.cmpL z60 w85_t0))])) _
      by_cases hc92 : z60 = w85_t0
      · refine own_step (fun _ => XS.ifNo X_85.here hx rfl (hb hby at_92) rfl (Jvm.Free.XT.ll_ne_f hc92)) ?_
        show own_Goes p.tables e below (T_85.setTop (mkF m 95 #[.val (.long q0), .second, .val (.long q1), .second, .val (.long q2), .second, .val (.int p3), .val (.int p4), .val (.long (q1 &&& (9223372036854775807 : Int64))), .second, .val (.long (q2 &&& (9223372036854775807 : Int64))), .second, .val (.long w38_t0), .second, .val (.ref b40), .val (.long z60), .second, .val (.long z67), .second, .val (.long w85_t0), .second] [])) _
        refine own_step (fun _ => XS.iconst X_85.here hx rfl (hb hby at_95)) ?_
        show own_Goes p.tables e below (T_85.setTop (mkF m 96 #[.val (.long q0), .second, .val (.long q1), .second, .val (.long q2), .second, .val (.int p3), .val (.int p4), .val (.long (q1 &&& (9223372036854775807 : Int64))), .second, .val (.long (q2 &&& (9223372036854775807 : Int64))), .second, .val (.long w38_t0), .second, .val (.ref b40), .val (.long z60), .second, .val (.long z67), .second, .val (.long w85_t0), .second] [(.int (1 : Int32))])) _
        refine own_step (fun _ => XS.goto X_85.here hx rfl (pc0 := 96) (pc' := 100) rfl (hb hby at_96) (by decide) (by decide)) ?_
        show own_Goes p.tables e below (T_85.setTop (mkF m 100 #[.val (.long q0), .second, .val (.long q1), .second, .val (.long q2), .second, .val (.int p3), .val (.int p4), .val (.long (q1 &&& (9223372036854775807 : Int64))), .second, .val (.long (q2 &&& (9223372036854775807 : Int64))), .second, .val (.long w38_t0), .second, .val (.ref b40), .val (.long z60), .second, .val (.long z67), .second, .val (.long w85_t0), .second] [(.int (1 : Int32))])) _
        have hv : (own_f0_85 z60 w85_t0) = (1 : Int32) := by exact (if_pos hc92)
        rw [hv]
        exact own_retNW X_85 hS (by rw [e_85]; exact hk) hx (t := .boolean) Bd.returns (by simp) (hb hby at_100) (BodyLoose.notSynchronized Bd) (w := (1 : Int32)) rfl ⟨rfl, N3⟩ (by decide) (by decide)
      · refine own_step (fun _ => XS.ifYes X_85.here hx rfl (pc0 := 92) (pc' := 99) rfl (hb hby at_92) rfl (Jvm.Free.XT.ll_ne_t hc92) (by decide) (by decide)) ?_
        show own_Goes p.tables e below (T_85.setTop (mkF m 99 #[.val (.long q0), .second, .val (.long q1), .second, .val (.long q2), .second, .val (.int p3), .val (.int p4), .val (.long (q1 &&& (9223372036854775807 : Int64))), .second, .val (.long (q2 &&& (9223372036854775807 : Int64))), .second, .val (.long w38_t0), .second, .val (.ref b40), .val (.long z60), .second, .val (.long z67), .second, .val (.long w85_t0), .second] [])) _
        refine own_step (fun _ => XS.iconst X_85.here hx rfl (hb hby at_99)) ?_
        show own_Goes p.tables e below (T_85.setTop (mkF m 100 #[.val (.long q0), .second, .val (.long q1), .second, .val (.long q2), .second, .val (.int p3), .val (.int p4), .val (.long (q1 &&& (9223372036854775807 : Int64))), .second, .val (.long (q2 &&& (9223372036854775807 : Int64))), .second, .val (.long w38_t0), .second, .val (.ref b40), .val (.long z60), .second, .val (.long z67), .second, .val (.long w85_t0), .second] [(.int (0 : Int32))])) _
        have hv : (own_f0_85 z60 w85_t0) = (0 : Int32) := by exact (if_neg hc92)
        rw [hv]
        exact own_retNW X_85 hS (by rw [e_85]; exact hk) hx (t := .boolean) Bd.returns (by simp) (hb hby at_100) (BodyLoose.notSynchronized Bd) (w := (0 : Int32)) rfl ⟨rfl, N3⟩ (by decide) (by decide)
    by_cases hc74 : w38_t0 < z67
    · refine own_step (fun _ => XS.ifNo X3.here hx rfl (hb hby at_74) rfl (Jvm.Free.XT.ll_le_f hc74)) ?_
      show own_Goes p.tables e below (T3.setTop (mkF m 77 #[.val (.long q0), .second, .val (.long q1), .second, .val (.long q2), .second, .val (.int p3), .val (.int p4), .val (.long (q1 &&& (9223372036854775807 : Int64))), .second, .val (.long (q2 &&& (9223372036854775807 : Int64))), .second, .val (.long w38_t0), .second, .val (.ref b40), .val (.long z60), .second, .val (.long z67), .second, .unset, .unset] [])) _
      refine own_step (X3.ldc2Long hx hown (mvT hZ (hw _ (List.mem_of_getElem? (i := 32) rfl))) (g := (mkF m 77 #[.val (.long q0), .second, .val (.long q1), .second, .val (.long q2), .second, .val (.int p3), .val (.int p4), .val (.long (q1 &&& (9223372036854775807 : Int64))), .second, .val (.long (q2 &&& (9223372036854775807 : Int64))), .second, .val (.long w38_t0), .second, .val (.ref b40), .val (.long z60), .second, .val (.long z67), .second, .unset, .unset] [])) rfl (hb hby at_77)) ?_
      show own_Goes p.tables e below (T3.setTop (mkF m 80 #[.val (.long q0), .second, .val (.long q1), .second, .val (.long q2), .second, .val (.int p3), .val (.int p4), .val (.long (q1 &&& (9223372036854775807 : Int64))), .second, .val (.long (q2 &&& (9223372036854775807 : Int64))), .second, .val (.long w38_t0), .second, .val (.ref b40), .val (.long z60), .second, .val (.long z67), .second, .unset, .unset] [(.long (-9223372036854775808 : Int64))])) _
      refine own_step (fun _ => XS.goto X3.here hx rfl (pc0 := 80) (pc' := 85) rfl (hb hby at_80) (by decide) (by decide)) ?_
      show own_Goes p.tables e below (T3.setTop (mkF m 85 #[.val (.long q0), .second, .val (.long q1), .second, .val (.long q2), .second, .val (.int p3), .val (.int p4), .val (.long (q1 &&& (9223372036854775807 : Int64))), .second, .val (.long (q2 &&& (9223372036854775807 : Int64))), .second, .val (.long w38_t0), .second, .val (.ref b40), .val (.long z60), .second, .val (.long z67), .second, .unset, .unset] [(.long (-9223372036854775808 : Int64))])) _
      have hv : (own_f0_38 q1 w38_t0) = (own_f0_85 z60 (-9223372036854775808 : Int64)) := by subst hz67; subst hz60; exact (if_pos hc74)
      rw [hv]
      exact J85 T3 X3 rfl (-9223372036854775808 : Int64)
    · refine own_step (fun _ => XS.ifYes X3.here hx rfl (pc0 := 74) (pc' := 83) rfl (hb hby at_74) rfl (Jvm.Free.XT.ll_le_t hc74) (by decide) (by decide)) ?_
      show own_Goes p.tables e below (T3.setTop (mkF m 83 #[.val (.long q0), .second, .val (.long q1), .second, .val (.long q2), .second, .val (.int p3), .val (.int p4), .val (.long (q1 &&& (9223372036854775807 : Int64))), .second, .val (.long (q2 &&& (9223372036854775807 : Int64))), .second, .val (.long w38_t0), .second, .val (.ref b40), .val (.long z60), .second, .val (.long z67), .second, .unset, .unset] [])) _
      refine own_step (fun _ => XS.lload X3.here hx rfl (hb hby at_83) rfl) ?_
      show own_Goes p.tables e below (T3.setTop (mkF m 85 #[.val (.long q0), .second, .val (.long q1), .second, .val (.long q2), .second, .val (.int p3), .val (.int p4), .val (.long (q1 &&& (9223372036854775807 : Int64))), .second, .val (.long (q2 &&& (9223372036854775807 : Int64))), .second, .val (.long w38_t0), .second, .val (.ref b40), .val (.long z60), .second, .val (.long z67), .second, .unset, .unset] [(.long z67)])) _
      have hv : (own_f0_38 q1 w38_t0) = (own_f0_85 z60 z67) := by subst hz67; subst hz60; exact (if_neg hc74)
      rw [hv]
      exact J85 T3 X3 rfl z67
  by_cases hc19 : (p3 &&& (1 : Int32)) = 0
  · refine own_step (fun _ => XS.ifYes X0.here hx rfl (pc0 := 19) (pc' := 37) rfl (hb hby at_19) rfl (Jvm.Free.XT.i0_eq_t hc19) (by decide) (by decide)) ?_
    show own_Goes p.tables e below (s₁.setTop (mkF m 37 #[.val (.long q0), .second, .val (.long q1), .second, .val (.long q2), .second, .val (.int p3), .val (.int p4), .val (.long (q1 &&& (9223372036854775807 : Int64))), .second, .val (.long (q2 &&& (9223372036854775807 : Int64))), .second, .unset, .unset, .unset, .unset, .unset, .unset, .unset, .unset, .unset] [])) _
    refine own_step (fun _ => XS.lloadN X0.here hx rfl (hb hby at_37) rfl) ?_
    show own_Goes p.tables e below (s₁.setTop (mkF m 38 #[.val (.long q0), .second, .val (.long q1), .second, .val (.long q2), .second, .val (.int p3), .val (.int p4), .val (.long (q1 &&& (9223372036854775807 : Int64))), .second, .val (.long (q2 &&& (9223372036854775807 : Int64))), .second, .unset, .unset, .unset, .unset, .unset, .unset, .unset, .unset, .unset] [(.long q0)])) _
    have hv : (own_f0 q0 q1 q2 p3 p4) = (own_f0_38 q1 q0) := by exact (if_pos hc19)
    rw [hv]
    exact J38 s₁ X0 e0 q0
  · refine own_step (fun _ => XS.ifNo X0.here hx rfl (hb hby at_19) rfl (Jvm.Free.XT.i0_eq_f hc19)) ?_
    show own_Goes p.tables e below (s₁.setTop (mkF m 22 #[.val (.long q0), .second, .val (.long q1), .second, .val (.long q2), .second, .val (.int p3), .val (.int p4), .val (.long (q1 &&& (9223372036854775807 : Int64))), .second, .val (.long (q2 &&& (9223372036854775807 : Int64))), .second, .unset, .unset, .unset, .unset, .unset, .unset, .unset, .unset, .unset] [])) _
    refine own_step (X0.ldc2Long hx hown (mvT hZ (hw _ (List.mem_of_getElem? (i := 32) rfl))) (g := (mkF m 22 #[.val (.long q0), .second, .val (.long q1), .second, .val (.long q2), .second, .val (.int p3), .val (.int p4), .val (.long (q1 &&& (9223372036854775807 : Int64))), .second, .val (.long (q2 &&& (9223372036854775807 : Int64))), .second, .unset, .unset, .unset, .unset, .unset, .unset, .unset, .unset, .unset] [])) rfl (hb hby at_22)) ?_
    show own_Goes p.tables e below (s₁.setTop (mkF m 25 #[.val (.long q0), .second, .val (.long q1), .second, .val (.long q2), .second, .val (.int p3), .val (.int p4), .val (.long (q1 &&& (9223372036854775807 : Int64))), .second, .val (.long (q2 &&& (9223372036854775807 : Int64))), .second, .unset, .unset, .unset, .unset, .unset, .unset, .unset, .unset, .unset] [(.long (-9223372036854775808 : Int64))])) _
    refine own_step (fun _ => XS.lload X0.here hx rfl (hb hby at_25) rfl) ?_
    show own_Goes p.tables e below (s₁.setTop (mkF m 27 #[.val (.long q0), .second, .val (.long q1), .second, .val (.long q2), .second, .val (.int p3), .val (.int p4), .val (.long (q1 &&& (9223372036854775807 : Int64))), .second, .val (.long (q2 &&& (9223372036854775807 : Int64))), .second, .unset, .unset, .unset, .unset, .unset, .unset, .unset, .unset, .unset] [(.long (q1 &&& (9223372036854775807 : Int64))), (.long (-9223372036854775808 : Int64))])) _
    refine own_step (fun _ => XS.ladd X0.here hx rfl (hb hby at_27) rfl) ?_
    show own_Goes p.tables e below (s₁.setTop (mkF m 28 #[.val (.long q0), .second, .val (.long q1), .second, .val (.long q2), .second, .val (.int p3), .val (.int p4), .val (.long (q1 &&& (9223372036854775807 : Int64))), .second, .val (.long (q2 &&& (9223372036854775807 : Int64))), .second, .unset, .unset, .unset, .unset, .unset, .unset, .unset, .unset, .unset] [(.long ((-9223372036854775808 : Int64) + (q1 &&& (9223372036854775807 : Int64))))])) _
    refine own_step (fun _ => XS.iload X0.here hx rfl (hb hby at_28) rfl) ?_
    show own_Goes p.tables e below (s₁.setTop (mkF m 30 #[.val (.long q0), .second, .val (.long q1), .second, .val (.long q2), .second, .val (.int p3), .val (.int p4), .val (.long (q1 &&& (9223372036854775807 : Int64))), .second, .val (.long (q2 &&& (9223372036854775807 : Int64))), .second, .unset, .unset, .unset, .unset, .unset, .unset, .unset, .unset, .unset] [(.int p4), (.long ((-9223372036854775808 : Int64) + (q1 &&& (9223372036854775807 : Int64))))])) _
    refine own_step (fun _ => XS.iconst X0.here hx rfl (hb hby at_30)) ?_
    show own_Goes p.tables e below (s₁.setTop (mkF m 31 #[.val (.long q0), .second, .val (.long q1), .second, .val (.long q2), .second, .val (.int p3), .val (.int p4), .val (.long (q1 &&& (9223372036854775807 : Int64))), .second, .val (.long (q2 &&& (9223372036854775807 : Int64))), .second, .unset, .unset, .unset, .unset, .unset, .unset, .unset, .unset, .unset] [(.int (4 : Int32)), (.int p4), (.long ((-9223372036854775808 : Int64) + (q1 &&& (9223372036854775807 : Int64))))])) _
    refine own_step (fun _ => XS.irem X0.here hx rfl (hb hby at_31) rfl (by decide)) ?_
    show own_Goes p.tables e below (s₁.setTop (mkF m 32 #[.val (.long q0), .second, .val (.long q1), .second, .val (.long q2), .second, .val (.int p3), .val (.int p4), .val (.long (q1 &&& (9223372036854775807 : Int64))), .second, .val (.long (q2 &&& (9223372036854775807 : Int64))), .second, .unset, .unset, .unset, .unset, .unset, .unset, .unset, .unset, .unset] [(.int (p4 - p4 / (4 : Int32) * (4 : Int32))), (.long ((-9223372036854775808 : Int64) + (q1 &&& (9223372036854775807 : Int64))))])) _
    refine own_step (fun _ => XS.i2l X0.here hx rfl (hb hby at_32) rfl) ?_
    show own_Goes p.tables e below (s₁.setTop (mkF m 33 #[.val (.long q0), .second, .val (.long q1), .second, .val (.long q2), .second, .val (.int p3), .val (.int p4), .val (.long (q1 &&& (9223372036854775807 : Int64))), .second, .val (.long (q2 &&& (9223372036854775807 : Int64))), .second, .unset, .unset, .unset, .unset, .unset, .unset, .unset, .unset, .unset] [(.long ((p4 - p4 / (4 : Int32) * (4 : Int32)).toInt64)), (.long ((-9223372036854775808 : Int64) + (q1 &&& (9223372036854775807 : Int64))))])) _
    refine own_step (fun _ => XS.ladd X0.here hx rfl (hb hby at_33) rfl) ?_
    show own_Goes p.tables e below (s₁.setTop (mkF m 34 #[.val (.long q0), .second, .val (.long q1), .second, .val (.long q2), .second, .val (.int p3), .val (.int p4), .val (.long (q1 &&& (9223372036854775807 : Int64))), .second, .val (.long (q2 &&& (9223372036854775807 : Int64))), .second, .unset, .unset, .unset, .unset, .unset, .unset, .unset, .unset, .unset] [(.long (((-9223372036854775808 : Int64) + (q1 &&& (9223372036854775807 : Int64))) + ((p4 - p4 / (4 : Int32) * (4 : Int32)).toInt64)))])) _
    refine own_step (fun _ => XS.goto X0.here hx rfl (pc0 := 34) (pc' := 38) rfl (hb hby at_34) (by decide) (by decide)) ?_
    show own_Goes p.tables e below (s₁.setTop (mkF m 38 #[.val (.long q0), .second, .val (.long q1), .second, .val (.long q2), .second, .val (.int p3), .val (.int p4), .val (.long (q1 &&& (9223372036854775807 : Int64))), .second, .val (.long (q2 &&& (9223372036854775807 : Int64))), .second, .unset, .unset, .unset, .unset, .unset, .unset, .unset, .unset, .unset] [(.long (((-9223372036854775808 : Int64) + (q1 &&& (9223372036854775807 : Int64))) + ((p4 - p4 / (4 : Int32) * (4 : Int32)).toInt64)))])) _
    have hv : (own_f0 q0 q1 q2 p3 p4) = (own_f0_38 q1 (((-9223372036854775808 : Int64) + (q1 &&& (9223372036854775807 : Int64))) + ((p4 - p4 / (4 : Int32) * (4 : Int32)).toInt64))) := by exact (if_neg hc19)
    rw [hv]
    exact J38 s₁ X0 e0 (((-9223372036854775808 : Int64) + (q1 &&& (9223372036854775807 : Int64))) + ((p4 - p4 / (4 : Int32) * (4 : Int32)).toInt64))
theorem own_down {n b : Int64} (h : n.toInt - b.toInt < -9223372036854775808) (hb : 0 ≤ b.toInt) : (n - b).toInt = n.toInt - b.toInt + 18446744073709551616 := by
  have h1 := n.le_toInt
  have h2 := b.toInt_lt
  rw [Int64.toInt_sub, Int.bmod_def]
  split <;> omega
theorem own_key (n b : Int64) (hb : 0 ≤ b.toInt) : own_f4 n b = (if n < (n - b) then (-9223372036854775808 : Int64) else (n - b)) := by
  have h1 := n.toInt_lt
  have h2 := n.le_toInt
  have h3 := b.toInt_lt
  have jm : (-9223372036854775808 : Int64).toInt = -9223372036854775808 := rfl
  have e1 : ((-9223372036854775808 : Int64) + b).toInt = -9223372036854775808 + b.toInt := by rw [Jvm.Kit.i64_add (by omega) (by omega), jm]
  unfold own_f4
  by_cases h : n.toInt - b.toInt < -9223372036854775808
  · have e2 := own_down h hb
    have c1 : n < ((-9223372036854775808 : Int64) + b) := by rw [Int64.lt_iff_toInt_lt]; omega
    have c2 : n < (n - b) := by rw [Int64.lt_iff_toInt_lt]; omega
    simp only [c1, c2, ↓reduceIte]
  · have e2 : (n - b).toInt = n.toInt - b.toInt := Jvm.Kit.i64_sub (by omega) (by omega)
    have c1 : ¬ n < ((-9223372036854775808 : Int64) + b) := by rw [Int64.lt_iff_toInt_lt]; omega
    have c2 : ¬ n < (n - b) := by rw [Int64.lt_iff_toInt_lt]; omega
    simp only [c1, c2, ↓reduceIte]
theorem own_38 (q1 n : Int64) : own_f0_38 q1 n = 1 := by
  have hb := own_nn q1
  unfold own_f0_38 own_f0_85
  generalize (q1 &&& (9223372036854775807 : Int64)) = b at *
  rw [Int64.lt_iff_toInt_lt, show (0 : Int64).toInt = 0 from rfl] at hb
  rw [own_key n b (by omega)]
  by_cases h : n < (n - b)
  · simp only [h, ↓reduceIte]
  · simp only [h, ↓reduceIte]
theorem own_law (q0 : Int64) (q1 : Int64) (q2 : Int64) (p3 : Int32) (p4 : Int32) : own_f0 q0 q1 q2 p3 p4 = 1 := by
  simp only [own_f0, own_38, ite_self]

set_option maxRecDepth 65536 in
set_option maxHeartbeats 40000000 in
theorem comes_1 {Post : Tables → Env → Array Value → State → Outcome → State → Prop} (hpost : ∀ tb e args s v u, (limb_1_1.after args s (.returned v) u = true ∧ limb_1_2.after args s (.returned v) u = true ∧ True) → ReturnedEndW s (.returned v) u (Jvm.fieldLocs frame_1_writes args s ++ Jvm.arrayLocs frame_1_arrays args s ++ Jvm.staticLocs frame_1_statics s) 16 2176 → Post tb e args s (.returned v) u) :
    ArmFor flags0 classFile x code maxLocals ret World_1 tables_1 room_1 Calls_1 rest_1 Pre_1 Post := by
  intro l hfl _ _ p e ha hc hk s m args below hf hA hF happ hP
  obtain ⟨hcalls, hrest, hpre⟩ := hP
  obtain ⟨-, -, -, hnamed, -, -, -, hat⟩ := (Spec.applies_iff hf).mp happ
  obtain ⟨hg, hn⟩ := and_e (Cond.before_iff.mp (show (Jvm.Cond.and given_1 narrow_1).before args s = true from hpre))
  obtain ⟨g1, g2⟩ := and_e hg
  obtain ⟨g3, g4⟩ := and_e g2
  obtain ⟨g5, g6⟩ := and_e g4
  obtain ⟨g7, g8⟩ := and_e g6
  obtain ⟨g9, g10⟩ := and_e g8
  obtain ⟨w0, w1, w2, w3, w4, rfl⟩ : ∃ w0 w1 w2 w3 w4 : Value, args = #[w0, w1, w2, w3, w4] := by
    have hs : args.size = 5 := by simpa [Cond.value, given_1] using g1
    obtain ⟨L⟩ := args
    match L, hs with
    | [w0, w1, w2, w3, w4], _ => exact ⟨w0, w1, w2, w3, w4, rfl⟩
  have hw := fun d (hd : d ∈ tables_1) => atoms_spec (ws := Jvm.Cond.code x code maxLocals ret :: tables_1) hat d (List.mem_cons_of_mem _ hd)
  obtain ⟨i0, ei0⟩ := isL_v g3
  obtain rfl : w0 = (.long i0) := Option.some.inj ei0
  obtain ⟨i1, ei1⟩ := isL_v g5
  obtain rfl : w1 = (.long i1) := Option.some.inj ei1
  obtain ⟨i2, ei2⟩ := isL_v g7
  obtain rfl : w2 = (.long i2) := Option.some.inj ei2
  obtain ⟨i3, ei3⟩ := is_v g9
  obtain rfl : w3 = (.int i3) := Option.some.inj ei3
  obtain ⟨i4, ei4⟩ := is_v g10
  obtain rfl : w4 = (.int i4) := Option.some.inj ei4
  have hrm := rm0 l s _ hw tables_1 i0 i1 i2 i3 i4 s.heap s.heap.size (Nat.le_refl _)
  rw [own_law i0 i1 i2 i3 i4] at hrm
  obtain ⟨n, o, h1, h2, h3, _, L, rfl, ⟨rfl, N⟩, hq⟩ := hrm p e ha hc hk s m _ below hf ((Spec.applies_iff_loose hf).mp happ).1 ⟨rfl, State.Warmed39.refl s, rfl⟩ trivial
  refine ⟨n, _, h1, h2, h3, hpost _ _ _ _ _ _ ⟨Cond.after_iff.mpr rfl, Cond.after_iff.mpr (eq_i res_at (Term.int_eval (1)) rfl), trivial⟩ ⟨hq.1, hq.2.1, hq.2.2.1, (hq.2.2.2.sift fun y hy => Or.inr (N y hy)).mono (by decide) (by decide)⟩⟩
theorem main_1_1 : Claimed_1_1 := comes_1 fun _ _ _ _ _ _ h hF => ⟨h.1, hF⟩
theorem main_1_2 : Claimed_1_2 := comes_1 fun _ _ _ _ _ _ h hF => ⟨h.2.1, hF⟩
end Jvm.Pilot.@@N@@
namespace Jvm.Pilot.@@N@@
open Jvm Jvm.ClassFile Sem Op Lib Jvm.Free Jvm.Stand Jvm.Pilot.@@N@@.Jvm.D
/-! MADE BY PROGRAM (witnessworld.py) out of the Statement's table words and the real class files: 14 classes; the members and pool entries that the words name. The judged class is class 1, her method 1. -/
namespace start1
open Jvm.ClassFile
def u (s : String) : CpInfo := .utf8 (stringToUtf16 s)
/-- a pool by its gaps: so many unusable entries, then the entry; so many at the end -/
def gap : Nat → List CpInfo → List CpInfo
  | 0, r => r
  | n + 1, r => .unusable :: gap n r
def poolList (es : List (Nat × CpInfo)) (last : Nat) : List CpInfo := es.foldr (fun e r => gap e.1 (e.2 :: r)) (gap last [])
def pool (es : List (Nat × CpInfo)) (last : Nat) : Array CpInfo := ⟨poolList es last⟩
def fileOf (pool : Array CpInfo) (this : Nat) (attrs : Array Attribute := #[]) (ms : Array MethodInfo := #[]) (fl : Nat := 33) (sup : Nat := 0) (ifs : Array Nat := #[]) (fds : Array FieldInfo := #[]) : ClassFile where
  minorVersion := 0
  majorVersion := 65
  constantPool := pool
  accessFlags := fl
  thisClass := this
  superClass := sup
  interfaces := ifs
  fields := fds
  methods := ms
  attributes := attrs
def plain (name : String) (sup : Option ClassId) : Class where
  name := name
  kind := .ordinary
  loader := none
  accessFlags := 33
  super := sup
  interfaces := #[]
  cf := none
  fields := #[]
  methods := #[]
  instanceTypes := #[]
  staticTypes := #[]
  resolved := #[]
  callSites := []
  init := .initialized
  statics := none
  mirror := none

def pool0 : Array CpInfo := pool [(5, u "<init>"), (0, u "()V"), (1, .class_ 10), (1, u "java/lang/Object")] 113

def k0c0 : Code := { maxStack := 0, maxLocals := 1, code := object_method_1_code, exceptionTable := #[], attributes := #[] }
def k0m0 : Method := { name := "<init>", desc := "()V", sig := { parameters := [], returnType := none }, accessFlags := 1, code := some k0c0 }
/-- java/lang/Object -/
def k0 : Class := { plain "java/lang/Object" none with
  accessFlags := 33
  interfaces := #[]
  cf := some (fileOf pool0 8 #[] #[{ accessFlags := 1, nameIndex := 5, descriptorIndex := 6, attributes := #[] }] 33 0 #[] #[])
  fields := #[]
  methods := #[k0m0]
  instanceTypes := #[]
  staticTypes := #[]
  resolved := Array.replicate 124 none
  statics := none }

def pool1 : Array CpInfo := pool [(2, .class_ 4), (1, u "java/lang/Object"), (0, u "<init>"), (0, u "()V"), (2, .long 9223372036854775807), (1, .long 9223372036854775808), (1, .class_ 14), (0, u "com/example/bound/bound/validation/TimestampBounds"), (0, .methodref 13 16), (0, .nameAndType 5 17), (0, u "(JJ)V"), (0, .methodref 13 19), (0, .nameAndType 20 21), (0, u "lowest"), (0, u "(J)J"), (0, .class_ 23), (0, u "com/example/bound/bound/validation/TimestampBoundsLowestPinLaw"), (2, u "law"), (0, u "(JJJII)Z")] 3

def k1m0 : Method := { name := "<init>", desc := "()V", sig := { parameters := [], returnType := none }, accessFlags := 1, code := none }
def k1c1 : Code := { maxStack := 6, maxLocals := 21, code := code, exceptionTable := #[], attributes := #[] }
def k1m1 : Method := { name := "law", desc := "(JJJII)Z", sig := { parameters := [.long, .long, .long, .int, .int], returnType := some .boolean }, accessFlags := 9, code := some k1c1 }
/-- com/example/bound/bound/validation/TimestampBoundsLowestPinLaw -/
def k1 : Class := { plain "com/example/bound/bound/validation/TimestampBoundsLowestPinLaw" (some 0) with
  accessFlags := 49
  interfaces := #[]
  cf := some (fileOf pool1 22 #[] #[{ accessFlags := 1, nameIndex := 5, descriptorIndex := 6, attributes := #[] }, { accessFlags := 9, nameIndex := 26, descriptorIndex := 27, attributes := #[] }] 49 2 #[] #[])
  fields := #[]
  methods := #[k1m0, k1m1]
  instanceTypes := #[]
  staticTypes := #[]
  resolved := Array.replicate 31 none
  statics := none }

def pool2 : Array CpInfo := pool [(3, .class_ 4), (0, u "com/example/bound/bound/validation/TimestampBounds"), (0, .methodref 6 7), (0, .class_ 8), (0, .nameAndType 9 10), (0, u "java/lang/Object"), (0, u "<init>"), (0, u "()V"), (0, .string 12), (0, u "log.message.timestamp.before.max.ms"), (0, .methodref 3 14), (0, .nameAndType 15 16), (0, u "checked"), (0, u "(Ljava/lang/String;J)J"), (0, .fieldref 3 18), (0, .nameAndType 19 20), (0, u "beforeMaxMs"), (0, u "J"), (0, .string 22), (0, u "log.message.timestamp.after.max.ms"), (0, .fieldref 3 24), (0, .nameAndType 25 20), (0, u "afterMaxMs"), (0, .long 9223372036854775808), (5, u "DEFAULTS"), (0, u "Lcom/example/bound/bound/validation/TimestampBounds;"), (3, u "(J)J"), (13, u "(JJ)V"), (0, u "LEAST_MS"), (3, u "LARGEST_MS"), (0, u "BEFORE_DEFAULT_MS"), (0, u "AFTER_DEFAULT_MS"), (0, u "BEFORE_SETTING"), (0, u "Ljava/lang/String;"), (0, u "AFTER_SETTING"), (2, u "lowest")] 20

def k2c0 : Code := { maxStack := 4, maxLocals := 5, code := prog_27_method_1_code, exceptionTable := #[], attributes := #[] }
def k2m0 : Method := { name := "<init>", desc := "(JJ)V", sig := { parameters := [.long, .long], returnType := none }, accessFlags := 1, code := some k2c0 }
def k2c1 : Code := { maxStack := 6, maxLocals := 3, code := prog_27_method_2_code, exceptionTable := #[], attributes := #[] }
def k2m1 : Method := { name := "lowest", desc := "(J)J", sig := { parameters := [.long], returnType := some .long }, accessFlags := 1, code := some k2c1 }
def k2c2 : Code := { maxStack := 5, maxLocals := 3, code := prog_27_method_5_code, exceptionTable := #[], attributes := #[] }
def k2m2 : Method := { name := "checked", desc := "(Ljava/lang/String;J)J", sig := { parameters := [(.object "java/lang/String"), .long], returnType := some .long }, accessFlags := 10, code := some k2c2 }
/-- com/example/bound/bound/validation/TimestampBounds -/
def k2 : Class := { plain "com/example/bound/bound/validation/TimestampBounds" (some 0) with
  accessFlags := 49
  interfaces := #[]
  cf := some (fileOf pool2 3 #[] #[{ accessFlags := 1, nameIndex := 9, descriptorIndex := 51, attributes := #[] }, { accessFlags := 1, nameIndex := 64, descriptorIndex := 37, attributes := #[] }, { accessFlags := 10, nameIndex := 15, descriptorIndex := 16, attributes := #[] }] 49 6 #[] #[{ accessFlags := 25, nameIndex := 52, descriptorIndex := 20, attributes := #[] }, { accessFlags := 25, nameIndex := 56, descriptorIndex := 20, attributes := #[] }, { accessFlags := 25, nameIndex := 57, descriptorIndex := 20, attributes := #[] }, { accessFlags := 25, nameIndex := 58, descriptorIndex := 20, attributes := #[] }, { accessFlags := 25, nameIndex := 59, descriptorIndex := 60, attributes := #[] }, { accessFlags := 25, nameIndex := 61, descriptorIndex := 60, attributes := #[] }, { accessFlags := 26, nameIndex := 32, descriptorIndex := 33, attributes := #[] }, { accessFlags := 18, nameIndex := 19, descriptorIndex := 20, attributes := #[] }, { accessFlags := 18, nameIndex := 25, descriptorIndex := 20, attributes := #[] }])
  fields := #[{ name := "LEAST_MS", type := .long, accessFlags := 25, slot := 0, constantValue := 0 }, { name := "LARGEST_MS", type := .long, accessFlags := 25, slot := 1, constantValue := 0 }, { name := "BEFORE_DEFAULT_MS", type := .long, accessFlags := 25, slot := 2, constantValue := 0 }, { name := "AFTER_DEFAULT_MS", type := .long, accessFlags := 25, slot := 3, constantValue := 0 }, { name := "BEFORE_SETTING", type := (.object "java/lang/String"), accessFlags := 25, slot := 4, constantValue := 0 }, { name := "AFTER_SETTING", type := (.object "java/lang/String"), accessFlags := 25, slot := 5, constantValue := 0 }, { name := "DEFAULTS", type := (.object "com/example/bound/bound/validation/TimestampBounds"), accessFlags := 26, slot := 6, constantValue := 0 }, { name := "beforeMaxMs", type := .long, accessFlags := 18, slot := 0, constantValue := 0 }, { name := "afterMaxMs", type := .long, accessFlags := 18, slot := 1, constantValue := 0 }]
  methods := #[k2m0, k2m1, k2m2]
  instanceTypes := #[.long, .long]
  staticTypes := #[.long, .long, .long, .long, (.object "java/lang/String"), (.object "java/lang/String"), (.object "com/example/bound/bound/validation/TimestampBounds")]
  resolved := Array.replicate 85 none
  statics := none }

def pool3 : Array CpInfo := pool [(1, .class_ 2), (0, u "java/io/Serializable"), (0, .class_ 4), (0, u "java/lang/Object")] 2

/-- java/io/Serializable -/
def k3 : Class := { plain "java/io/Serializable" (some 0) with
  accessFlags := 1537
  interfaces := #[]
  cf := some (fileOf pool3 1 #[] #[] 1537 3 #[] #[])
  fields := #[]
  methods := #[]
  instanceTypes := #[]
  staticTypes := #[]
  resolved := Array.replicate 7 none
  statics := none }

def pool4 : Array CpInfo := pool [(1, .class_ 2), (0, u "java/lang/Comparable"), (0, .class_ 4), (0, u "java/lang/Object")] 7

/-- java/lang/Comparable -/
def k4 : Class := { plain "java/lang/Comparable" (some 0) with
  accessFlags := 1537
  interfaces := #[]
  cf := some (fileOf pool4 1 #[] #[] 1537 3 #[] #[])
  fields := #[]
  methods := #[]
  instanceTypes := #[]
  staticTypes := #[]
  resolved := Array.replicate 12 none
  statics := none }

def pool5 : Array CpInfo := pool [(2, .class_ 4), (1, u "java/lang/CharSequence"), (42, .class_ 48), (0, u "java/lang/CharSequence$1CodePointIterator"), (10, .class_ 60), (0, u "java/lang/CharSequence$1CharIterator"), (5, .class_ 67), (0, u "java/lang/Object")] 63

/-- java/lang/CharSequence -/
def k5 : Class := { plain "java/lang/CharSequence" (some 0) with
  accessFlags := 1537
  interfaces := #[]
  cf := some (fileOf pool5 2 #[.nestMembers #[47, 59]] #[] 1537 66 #[] #[])
  fields := #[]
  methods := #[]
  instanceTypes := #[]
  staticTypes := #[]
  resolved := Array.replicate 131 none
  statics := none }

def pool6 : Array CpInfo := pool [(1, .class_ 2), (0, u "java/lang/constant/Constable"), (0, .class_ 4), (0, u "java/lang/Object")] 6

/-- java/lang/constant/Constable -/
def k6 : Class := { plain "java/lang/constant/Constable" (some 0) with
  accessFlags := 1537
  interfaces := #[]
  cf := some (fileOf pool6 1 #[] #[] 1537 3 #[] #[])
  fields := #[]
  methods := #[]
  instanceTypes := #[]
  staticTypes := #[]
  resolved := Array.replicate 11 none
  statics := none }

def pool7 : Array CpInfo := pool [(1, .class_ 2), (0, u "java/lang/constant/ConstantDesc"), (0, .class_ 4), (0, u "java/lang/Object")] 32

/-- java/lang/constant/ConstantDesc -/
def k7 : Class := { plain "java/lang/constant/ConstantDesc" (some 0) with
  accessFlags := 1537
  interfaces := #[]
  cf := some (fileOf pool7 1 #[] #[] 1537 3 #[] #[])
  fields := #[]
  methods := #[]
  instanceTypes := #[]
  staticTypes := #[]
  resolved := Array.replicate 37 none
  statics := none }

def pool8 : Array CpInfo := pool [(2, .class_ 4), (1, u "java/lang/Object"), (0, u "<init>"), (0, u "()V"), (3, .class_ 12), (1, u "java/lang/String"), (0, u "value"), (0, u "[B"), (2, u "coder"), (0, u "B"), (2, u "hash"), (0, u "I"), (2, u "hashIsZero"), (0, u "Z"), (13, u "COMPACT_STRINGS"), (534, .class_ 576), (0, u "java/lang/CharSequence"), (22, u "CASE_INSENSITIVE_ORDER"), (0, u "Ljava/util/Comparator;"), (500, u "serialPersistentFields"), (0, u "[Ljava/io/ObjectStreamField;"), (0, .class_ 1104), (0, u "java/lang/String$CaseInsensitiveComparator"), (1, .class_ 1107), (0, u "java/io/Serializable"), (0, .class_ 1109), (0, u "java/lang/Comparable"), (0, .class_ 1111), (0, u "java/lang/constant/Constable"), (0, .class_ 1113), (0, u "java/lang/constant/ConstantDesc"), (2, u "serialVersionUID"), (0, u "J"), (3, u "REPL"), (0, u "C"), (2, u "LATIN1"), (1, u "UTF16")] 323

def k8m0 : Method := { name := "<init>", desc := "()V", sig := { parameters := [], returnType := none }, accessFlags := 1, code := none }
/-- java/lang/String -/
def k8 : Class := { plain "java/lang/String" (some 0) with
  accessFlags := 49
  interfaces := #[3, 4, 5, 6, 7]
  cf := some (fileOf pool8 10 #[.nestMembers #[1103]] #[{ accessFlags := 1, nameIndex := 5, descriptorIndex := 6, attributes := #[] }] 49 2 #[1106, 1108, 575, 1110, 1112] #[{ accessFlags := 18, nameIndex := 13, descriptorIndex := 14, attributes := #[] }, { accessFlags := 18, nameIndex := 17, descriptorIndex := 18, attributes := #[] }, { accessFlags := 2, nameIndex := 21, descriptorIndex := 22, attributes := #[] }, { accessFlags := 2, nameIndex := 25, descriptorIndex := 26, attributes := #[] }, { accessFlags := 26, nameIndex := 1116, descriptorIndex := 1117, attributes := #[] }, { accessFlags := 24, nameIndex := 40, descriptorIndex := 26, attributes := #[] }, { accessFlags := 26, nameIndex := 1101, descriptorIndex := 1102, attributes := #[] }, { accessFlags := 26, nameIndex := 1121, descriptorIndex := 1122, attributes := #[] }, { accessFlags := 25, nameIndex := 599, descriptorIndex := 600, attributes := #[] }, { accessFlags := 24, nameIndex := 1125, descriptorIndex := 18, attributes := #[] }, { accessFlags := 24, nameIndex := 1127, descriptorIndex := 18, attributes := #[] }])
  fields := #[{ name := "value", type := (.array .byte), accessFlags := 18, slot := 0, constantValue := 0 }, { name := "coder", type := .byte, accessFlags := 18, slot := 1, constantValue := 0 }, { name := "hash", type := .int, accessFlags := 2, slot := 2, constantValue := 0 }, { name := "hashIsZero", type := .boolean, accessFlags := 2, slot := 3, constantValue := 0 }, { name := "serialVersionUID", type := .long, accessFlags := 26, slot := 0, constantValue := 0 }, { name := "COMPACT_STRINGS", type := .boolean, accessFlags := 24, slot := 1, constantValue := 0 }, { name := "serialPersistentFields", type := (.array (.object "java/io/ObjectStreamField")), accessFlags := 26, slot := 2, constantValue := 0 }, { name := "REPL", type := .char, accessFlags := 26, slot := 3, constantValue := 0 }, { name := "CASE_INSENSITIVE_ORDER", type := (.object "java/util/Comparator"), accessFlags := 25, slot := 4, constantValue := 0 }, { name := "LATIN1", type := .byte, accessFlags := 24, slot := 5, constantValue := 0 }, { name := "UTF16", type := .byte, accessFlags := 24, slot := 6, constantValue := 0 }]
  methods := #[k8m0]
  instanceTypes := #[(.array .byte), .byte, .int, .boolean]
  staticTypes := #[.long, .boolean, (.array (.object "java/io/ObjectStreamField")), .char, (.object "java/util/Comparator"), .byte, .byte]
  resolved := Array.replicate 1451 none
  statics := none }

def pool9 : Array CpInfo := pool [(1, u "java/lang/Cloneable"), (0, .class_ 1), (0, u "java/lang/Object"), (0, .class_ 3)] 3

/-- java/lang/Cloneable -/
def k9 : Class := { plain "java/lang/Cloneable" (some 0) with
  accessFlags := 1537
  interfaces := #[]
  cf := some (fileOf pool9 2 #[] #[] 1537 4 #[] #[])
  fields := #[]
  methods := #[]
  instanceTypes := #[]
  staticTypes := #[]
  resolved := Array.replicate 8 none
  statics := none }

/-- the primitive byte -/
def k10 : Class := { plain "byte" none with kind := .primitive 'B', accessFlags := 0x411 }
/-- [B -/
def k11 : Class := { plain "[B" (some 0) with kind := .array 10 .byte, interfaces := #[9, 3], accessFlags := 1041 }

/-- the primitive int -/
def k12 : Class := { plain "int" none with kind := .primitive 'I', accessFlags := 0x411 }
/-- [I -/
def k13 : Class := { plain "[I" (some 0) with kind := .array 12 .int, interfaces := #[9, 3], accessFlags := 1041 }

def heap : Heap := #[]
def classes : Array Class := #[k0, k1, k2, k3, k4, k5, k6, k7, k8, k9, k10, k11, k12, k13]
def interned : List (Array UInt16 × Addr) := []
def slotsUsed : Nat := 0
def theMethod : MethodId := ⟨1, 1⟩
def args0 : Array Value := #[.long 1, .long 2, .long 3, .int 1, .int 1]
def aboutOver (below : List Frame) : State where
  vm := { classes := classes, interned := interned.toArray }
  heap := heap
  slotsUsed := slotsUsed
  threads := #[{ frames := .invoking theMethod args0 :: below }]
def below0 : List Frame := [.native { method := ⟨0, 0⟩, args := #[] }]
def about1 : State := aboutOver below0
def p0 : Program := .bare "" "" ""
def e0 : Env := launch0.env 0 0 0
theorem w_frames : about1.frames = Frame.invoking theMethod args0 :: below0 := rfl
set_option maxRecDepth 65536 in
theorem w_args : argsFit about1.vm theMethod args0 = true := by decide +kernel
set_option maxRecDepth 65536 in
theorem w_heap : heapFits about1 = true := by decide +kernel
set_option maxRecDepth 65536 in
theorem w_runnable : about1.curStatus? = some .runnable := by decide +kernel
set_option maxRecDepth 65536 in
theorem w_alone : about1.alone = true := by decide +kernel
set_option maxRecDepth 65536 in
theorem w_named : about1.methodNamed? x = some theMethod := by decide +kernel
set_option maxRecDepth 65536 in
theorem w_hears : about1.hears theMethod below0 = true := by decide +kernel
set_option maxRecDepth 65536 in
theorem w_ripe : about1.ripe theMethod args0 below0 = true := by decide +kernel
theorem w_running : about1.status = .running := rfl
set_option maxRecDepth 65536 in
theorem w_room : about1.hasRoom e0.platform room_1 = true :=
  launch0.hasRoom_least _ room_1 (by decide +kernel) (by decide +kernel) (by decide +kernel) (by decide +kernel) (by decide +kernel) (by decide +kernel)
theorem allAtoms_all (ts : List Jvm.Cond) (a : Array Jvm.Value) (st : Jvm.State) : (allAtoms ts).before a st = ts.all (fun c => c.before a st) := by
  induction ts with
  | nil => rfl
  | cons c t ih =>
    show (Jvm.Cond.and c (allAtoms t)).before a st = _
    rw [Jvm.Cond.before_and, ih, List.all_cons]
def words1 : List Jvm.Cond := Jvm.Cond.code x code maxLocals ret :: tables_1
/-- a 'code' word, met by the world's own term for the bytes: nothing is compared byte by byte -/
theorem code_word {y : MethodName} {bytes : ByteArray} {mx : Nat} {rt : Option FieldType} {a : Array Value} {s : State} {m : MethodId} {meth : Method} {c : Code} (h1 : s.methodNamed? y = some m) (h2 : s.vm.method? m = some meth) (h3 : meth.code = some c) (h4 : c.code = bytes)
    (h5 : (c.maxLocals == mx && c.exceptionTable.isEmpty && decide (c.maxStack ≤ mostOperands) && decide (meth.sig.returnType = rt) && !meth.locks && decide (parseMethodDescriptor y.desc = some meth.sig)) = true) : (Jvm.Cond.code y bytes mx rt).before a s = true := by
  simp only [Bool.and_eq_true, beq_iff_eq, Bool.not_eq_true', decide_eq_true_eq] at h5
  obtain ⟨⟨⟨⟨⟨g1, g2⟩, g3⟩, g4⟩, g5⟩, g6⟩ := h5
  simp [Cond.before, Cond.holds, Cond.value, h1, h2, h3, h4, g1, g2, g3, g4, g5, g6]
def isCode : Jvm.Cond → Bool
  | .code _ _ _ _ => true
  | _ => false
theorem all_split {L : List Jvm.Cond} {P : Jvm.Cond → Bool} (h1 : L.all (fun c => isCode c || P c) = true) (h2 : ∀ c ∈ L.filter isCode, P c = true) : L.all P = true := by
  refine List.all_eq_true.mpr fun c hc => ?_
  have h := List.all_eq_true.mp h1 c hc
  rcases Bool.eq_false_or_eq_true (isCode c) with hi | hi
  · exact h2 c (List.mem_filter.mpr ⟨hc, hi⟩)
  · simpa [hi] using h
set_option maxRecDepth 65536 in
theorem w_c0 : (Jvm.Cond.code x code maxLocals ret).before args0 about1 = true := code_word (m := ⟨1, 1⟩) (meth := k1m1) (c := k1c1) (by decide +kernel) rfl rfl rfl (by decide +kernel)
set_option maxRecDepth 65536 in
theorem w_c1 : (Jvm.Cond.code ({ cls := "com/example/bound/bound/validation/TimestampBounds", name := "<init>", desc := "(JJ)V" } : Jvm.MethodName) prog_27_method_1_code (5 : Nat) (Option.none : Option Jvm.ClassFile.FieldType)).before args0 about1 = true := code_word (m := ⟨2, 0⟩) (meth := k2m0) (c := k2c0) (by decide +kernel) rfl rfl rfl (by decide +kernel)
set_option maxRecDepth 65536 in
theorem w_c2 : (Jvm.Cond.code ({ cls := "java/lang/Object", name := "<init>", desc := "()V" } : Jvm.MethodName) object_method_1_code (1 : Nat) (Option.none : Option Jvm.ClassFile.FieldType)).before args0 about1 = true := code_word (m := ⟨0, 0⟩) (meth := k0m0) (c := k0c0) (by decide +kernel) rfl rfl rfl (by decide +kernel)
set_option maxRecDepth 65536 in
theorem w_c3 : (Jvm.Cond.code ({ cls := "com/example/bound/bound/validation/TimestampBounds", name := "checked", desc := "(Ljava/lang/String;J)J" } : Jvm.MethodName) prog_27_method_5_code (3 : Nat) (Option.some Jvm.ClassFile.FieldType.long)).before args0 about1 = true := code_word (m := ⟨2, 2⟩) (meth := k2m2) (c := k2c2) (by decide +kernel) rfl rfl rfl (by decide +kernel)
set_option maxRecDepth 65536 in
theorem w_c4 : (Jvm.Cond.code ({ cls := "com/example/bound/bound/validation/TimestampBounds", name := "lowest", desc := "(J)J" } : Jvm.MethodName) prog_27_method_2_code (3 : Nat) (Option.some Jvm.ClassFile.FieldType.long)).before args0 about1 = true := code_word (m := ⟨2, 1⟩) (meth := k2m1) (c := k2c1) (by decide +kernel) rfl rfl rfl (by decide +kernel)
def codes1 : List Jvm.Cond := [Jvm.Cond.code x code maxLocals ret, Jvm.Cond.code ({ cls := "com/example/bound/bound/validation/TimestampBounds", name := "<init>", desc := "(JJ)V" } : Jvm.MethodName) prog_27_method_1_code (5 : Nat) (Option.none : Option Jvm.ClassFile.FieldType), Jvm.Cond.code ({ cls := "java/lang/Object", name := "<init>", desc := "()V" } : Jvm.MethodName) object_method_1_code (1 : Nat) (Option.none : Option Jvm.ClassFile.FieldType), Jvm.Cond.code ({ cls := "com/example/bound/bound/validation/TimestampBounds", name := "checked", desc := "(Ljava/lang/String;J)J" } : Jvm.MethodName) prog_27_method_5_code (3 : Nat) (Option.some Jvm.ClassFile.FieldType.long), Jvm.Cond.code ({ cls := "com/example/bound/bound/validation/TimestampBounds", name := "lowest", desc := "(J)J" } : Jvm.MethodName) prog_27_method_2_code (3 : Nat) (Option.some Jvm.ClassFile.FieldType.long)]
set_option maxRecDepth 65536 in
theorem codes_eq : words1.filter isCode = codes1 := rfl
theorem w_codes : ∀ c ∈ words1.filter isCode, c.before args0 about1 = true := by
  rw [codes_eq]
  intro c hc
  simp only [codes1, List.mem_cons, List.not_mem_nil, or_false] at hc
  rcases hc with rfl | rfl | rfl | rfl | rfl
  · exact w_c0
  · exact w_c1
  · exact w_c2
  · exact w_c3
  · exact w_c4
set_option maxRecDepth 65536 in
theorem w_t1 : (words1.take 24).all (fun c => isCode c || c.before args0 about1) = true := by decide +kernel
set_option maxRecDepth 65536 in
theorem w_t2 : (words1.drop 24).all (fun c => isCode c || c.before args0 about1) = true := by decide +kernel
theorem w_tables : (allAtoms (Jvm.Cond.code x code maxLocals ret :: tables_1)).before args0 about1 = true := by
  rw [allAtoms_all]
  show words1.all (fun c => c.before args0 about1) = true
  refine all_split ?_ w_codes
  rw [← List.take_append_drop 24 words1, List.all_append, w_t1, w_t2]
  rfl
set_option maxRecDepth 65536 in
theorem w_case : (Jvm.Cond.and given_1 narrow_1).before args0 about1 = true := by decide +kernel
theorem w_applies : (headSpec (Jvm.Cond.code x code maxLocals ret :: tables_1) room_1).applies x e0.platform about1 = true :=
  (Spec.applies_iff w_frames).mpr ⟨w_running, w_runnable, w_alone, w_named, w_hears, w_ripe, w_room, w_tables⟩
theorem atStart : AtStart classFile x code maxLocals ret World_1 tables_1 room_1 Calls_1 rest_1 Pre_1 launch0 p0 e0 about1 theMethod args0 below0 :=
  ⟨lists_1, trivial, launch0.admits_env _ _ _, launch0.least_env, fairChoices_fair.cas, fairChoices_fair.clock, w_frames, w_args, w_heap, w_applies, trivial, trivial, w_case⟩
end start1
theorem witness_1 : WitnessClaimed_1 := ⟨start1.p0, start1.e0, start1.about1, start1.theMethod, start1.args0, start1.below0, start1.atStart⟩
end Jvm.Pilot.@@N@@
