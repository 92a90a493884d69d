import JvmDerived
import JvmDerived.Pilot.@@N@@Statement
import JvmDerived.Pilot.@@N@@Code
set_option linter.unusedVariables false
set_option linter.unusedSimpArgs false
@@BLOCK:NumsL.lean.txt@@
namespace Jvm.RoadKit
open Sem ClassFile Op Lib Jvm.Stand Jvm.Free Jvm.LawKit
section New
variable {p : Program} {l : Launch} {e : Env} {R : Room} {s : State} {m : MethodId} {args : Array Value} {below : List Frame} {meth : Method} {c : Code} {T : State} {locs : List Loc} {cells slots : Nat}
theorem retI (X : Stand p l e R s m args below meth c T locs cells slots) (hx : p.tables.exec = Jvm.exec) {pc : Nat} {Ls : Array Slot} {z : Int32} {rest : List Value} (hret : meth.sig.returnType = some .int) (hd : decode c.code pc = .ok (.ireturn, 1)) {fs : List Frame}
    (hl : ∀ (f : JFrame) (acts : List Action), f.method = m → f.locked = none → f.entered = [] → (doReturn e (T.setTop f) acts (some (.int z))).1 = T.setFrames fs) : Steps p.tables e below (T.setTop (mkF m pc Ls (.int z :: rest))) (T.setFrames fs) := by
  have hm' : T.vm.method? m = some meth := X.method'
  have hn : narrow .int (.int z) = .int z := rfl
  show Steps p.tables e below (T.setTop { method := m, pc := pc, locals := Ls, stack := _ :: rest, locked := none }) _
  jvm_step X.here [X.here.top, hx, hd, hm', hret, hn]
  first | (intro acts; rw [hl _ acts rfl rfl rfl]) | rw [hl _ _ rfl rfl rfl]
  exact Steps.refl _
end New
end Jvm.RoadKit
namespace Jvm.Pilot.@@N@@
open Jvm Jvm.ClassFile Sem Op Lib Jvm.Free Jvm.Stand Jvm.LawKit Jvm.RoadKit Bundle Jvm.Pilot.@@N@@.Jvm.D
section Own
variable {p : Program} {l : Launch} {e : Env} {R : Room} {s : State} {m : MethodId} {args : Array Value} {below : List Frame} {meth : Method} {c : Code} {T : State} {locs : List Loc} {cells slots : Nat}
/-- the run goes on from S to its end, and P holds there -/
def own_Goes (tb : Tables) (e : Env) (below : List Frame) (S : State) (P : State → Outcome → Prop) : Prop :=
  ∃ s₂ o, Steps tb e below S s₂ ∧ s₂.status = .running ∧ Ended s₂ below o ∧ P s₂ o
theorem own_step {tb : Tables} {S S' : State} {P : State → Outcome → Prop} (h : ∀ t, Steps tb e below S' t → Steps tb e below S t) (k : own_Goes tb e below S' P) : own_Goes tb e below S P := by
  obtain ⟨s₂, o, h1, h2⟩ := k
  exact ⟨s₂, o, h _ h1, h2⟩
theorem own_enter {tb : Tables} {g g' : JFrame} {P : State → Outcome → Prop} (q : g = g') (k : own_Goes tb e below (T.setTop g') P) : own_Goes tb e below (T.setTop g) P := q ▸ k
def own_P (s : State) (Q : Option Value → Heap → List Loc → Prop) (C K : Nat) : State → Outcome → Prop := fun U o => ∃ v L, o = .returned v ∧ Q v U.heap L ∧ FrameEnd s o U L C K
/-- a body that writes nothing -/
def own_Qp (w : Option Value) (h0 : Heap) (v : Option Value) (h : Heap) (L : List Loc) : Prop := v = w ∧ L = [] ∧ h = h0
/-- a body that makes cells and writes none that stood before -/
def own_Qa (w : Option Value) (h0 : Heap) (n0 : Nat) (v : Option Value) (h : Heap) (L : List Loc) : Prop := v = w ∧ Fr n0 L ∧ Keep h0 h []
/-- the law -/
def own_Ql (w : Option Value) (n0 : Nat) (v : Option Value) (h : Heap) (L : List Loc) : Prop := v = w ∧ Fr n0 L
variable {Q : Option Value → Heap → List Loc → Prop} {C K : Nat}
theorem own_retI (X : Stand p l e R s m args below meth c T locs cells slots) (hx : p.tables.exec = Jvm.exec) {pc : Nat} {Ls : Array Slot} {z : Int32} {rest : List Value} (hret : meth.sig.returnType = some .int) (hd : decode c.code pc = .ok (.ireturn, 1)) (hk : meth.locks = false)
    (hQ : Q (some (.int z)) T.heap locs) (hc : cells ≤ C) (hs : slots ≤ K) : own_Goes p.tables e below (T.setTop (mkF m pc Ls (.int z :: rest))) (own_P s Q C K) := by
  obtain ⟨fs, hr, hrun, hended, hW, hsame⟩ := X.leave (v := some (.int z)) (fun h => by rw [hret] at h; cases h) hk
  exact ⟨_, _, retI X hx hret hd hr, hrun, hended, _, _, rfl, hQ, ⟨_, rfl⟩, hW, hsame.mono hc hs⟩
theorem own_retN (X : Stand p l e R s m args below meth c T locs cells slots) (hx : p.tables.exec = Jvm.exec) {pc : Nat} {Ls : Array Slot} {z : Int32} {t : FieldType} {rest : List Value} (hret : meth.sig.returnType = some t) (ht : t = .boolean ∨ t = .byte ∨ t = .char ∨ t = .short) (hd : decode c.code pc = .ok (.ireturn, 1)) (hk : meth.locks = false)
    {w : Int32} (hw : nar t z = w) (hQ : Q (some (.int w)) T.heap locs) (hc : cells ≤ C) (hs : slots ≤ K) : own_Goes p.tables e below (T.setTop (mkF m pc Ls (.int z :: rest))) (own_P s Q C K) := by
  subst hw
  obtain ⟨fs, hr, hrun, hended, hW, hsame⟩ := X.leave (v := some (.int (nar t z))) (fun h => by rw [hret] at h; cases h) hk
  exact ⟨_, _, retN X hx hret ht hd hr, hrun, hended, _, _, rfl, hQ, ⟨_, rfl⟩, hW, hsame.mono hc hs⟩
theorem own_retJ (X : Stand p l e R s m args below meth c T locs cells slots) (hx : p.tables.exec = Jvm.exec) {pc : Nat} {Ls : Array Slot} {z : Int64} (hret : meth.sig.returnType = some .long) (hd : decode c.code pc = .ok (.lreturn, 1)) (hk : meth.locks = false)
    (hQ : Q (some (.long z)) T.heap locs) (hc : cells ≤ C) (hs : slots ≤ K) : own_Goes p.tables e below (T.setTop (mkF m pc Ls [.long z])) (own_P s Q C K) := by
  obtain ⟨fs, hr, hrun, hended, hW, hsame⟩ := X.leave (v := some (.long z)) (fun h => by rw [hret] at h; cases h) hk
  exact ⟨_, _, X.lreturnOut hx hret hd hr, hrun, hended, _, _, rfl, hQ, ⟨_, rfl⟩, hW, hsame.mono hc hs⟩
theorem own_retV (X : Stand p l e R s m args below meth c T locs cells slots) (hx : p.tables.exec = Jvm.exec) {pc : Nat} {Ls : Array Slot} (hret : meth.sig.returnType = none) (hd : decode c.code pc = .ok (.return_, 1)) (hk : meth.locks = false)
    (hQ : Q none T.heap locs) (hc : cells ≤ C) (hs : slots ≤ K) : own_Goes p.tables e below (T.setTop (mkF m pc Ls [])) (own_P s Q C K) := by
  obtain ⟨fs, hr, hrun, hended, hW, hsame⟩ := X.leave (v := none) (fun _ => rfl) hk
  exact ⟨_, _, X.returnOut hx hret hd hr, hrun, hended, _, _, rfl, hQ, ⟨_, rfl⟩, hW, hsame.mono hc hs⟩
theorem own_flat (X : Stand p l e R s m args below meth c T (locs ++ []) (cells + 0) (slots + 0)) : Stand p l e R s m args below meth c T locs cells slots := List.append_nil locs ▸ X
end Own

theorem own_rem32 (x y : Int32) : (x - x / y * y).toInt = x.toInt.tmod y.toInt := by
  have a := (x % y).toInt_lt; have b := (x % y).le_toInt
  rw [Int32.toInt_mod] at a b
  rw [Int32.toInt_sub, Int32.toInt_mul, Int32.toInt_div, Int.bmod_mul_bmod, Int.sub_bmod_bmod, Int.mul_comm, ← Int.tmod_def]
  exact Jvm.Kit.bmod32 b a
theorem own_rem32n {x y : Int32} (hx : 0 ≤ x.toInt) : (x - x / y * y).toInt = x.toInt % y.toInt := by rw [own_rem32, Int.tmod_eq_emod_of_nonneg hx]
theorem own_m31 (x : Int32) : 0 ≤ (x &&& (2147483647 : Int32)).toInt ∧ (x &&& (2147483647 : Int32)).toInt < 2147483648 := by
  rw [Jvm.Kit.i32_mask x 2147483647 (k := 31) (by decide) (by decide)]
  omega
theorem own_m30 (x : Int32) : 0 ≤ (x &&& (1073741823 : Int32)).toInt ∧ (x &&& (1073741823 : Int32)).toInt < 1073741824 := by
  rw [Jvm.Kit.i32_mask x 1073741823 (k := 30) (by decide) (by decide)]
  omega
theorem own_succ {m : Int32} (h : 0 ≤ m.toInt ∧ m.toInt < 1073741824) : (m + (1 : Int32)).toInt = m.toInt + 1 := by
  have l1 : (1 : Int32).toInt = 1 := rfl
  rw [Jvm.Kit.i32_add (by omega) (by omega), l1]
theorem own_nz {m : Int32} (h : 0 ≤ m.toInt ∧ m.toInt < 1073741824) : m + (1 : Int32) ≠ 0 := fun q => by
  have e := own_succ h
  rw [q, show (0 : Int32).toInt = 0 from rfl] at e
  omega
theorem own_part {m : Int32} (h : 0 ≤ m.toInt ∧ m.toInt < 1073741824) (x : Int32) : 0 ≤ ((x &&& (2147483647 : Int32)) - (x &&& (2147483647 : Int32)) / (m + (1 : Int32)) * (m + (1 : Int32))).toInt ∧ ((x &&& (2147483647 : Int32)) - (x &&& (2147483647 : Int32)) / (m + (1 : Int32)) * (m + (1 : Int32))).toInt ≤ m.toInt := by
  have e := own_succ h
  have hm := Int.emod_lt_of_pos (x &&& (2147483647 : Int32)).toInt (b := m.toInt + 1) (by omega)
  have hn := Int.emod_nonneg (x &&& (2147483647 : Int32)).toInt (b := m.toInt + 1) (by omega)
  rw [own_rem32n (own_m31 x).1, e]
  omega
theorem own_lt {m a : Int32} (h : 0 ≤ a.toInt ∧ a.toInt ≤ m.toInt) (hm : 0 ≤ m.toInt ∧ m.toInt < 1073741824) : 0 ≤ a.toInt ∧ a.toInt < 1073741824 := by omega
theorem own_selpriv {s : State} {args args' : Array Value} {y z : MethodName} {own : String} (hsel : (Jvm.Cond.selects own y y).before args' s = true) (hy : y.cls = z.cls) (hpriv : (Jvm.Cond.privateMethod z).before args s = true) (hinst : (Jvm.Cond.instanceMethod z).before args s = true) (hz : z.cls ≠ "java/lang/invoke/MethodHandle" ∧ z.cls ≠ "java/lang/invoke/VarHandle") : (Jvm.Cond.selects z.cls z z).before args s = true := by
  obtain ⟨c, r, m, -, -, hn, -, k, hk, hni⟩ := Cond.selects_spec hsel
  have hc := findClass_of_methodNamed hn
  rw [hy] at hc
  exact selects_self_of_private hc hk hni (Cond.privateMethod_at hpriv) hinst hz

theorem d1_0 : decode prog_18_method_1_code 0 = .ok (.aload_n 0, 1) := by decide +kernel
theorem d1_1 : decode prog_18_method_1_code 1 = .ok (.invokespecial 1, 3) := by decide +kernel
theorem d1_4 : decode prog_18_method_1_code 4 = .ok (.aload_n 0, 1) := by decide +kernel
theorem d1_5 : decode prog_18_method_1_code 5 = .ok (.lload_n 1, 1) := by decide +kernel
theorem d1_6 : decode prog_18_method_1_code 6 = .ok (.putfield 7, 3) := by decide +kernel
theorem d1_9 : decode prog_18_method_1_code 9 = .ok (.aload_n 0, 1) := by decide +kernel
theorem d1_10 : decode prog_18_method_1_code 10 = .ok (.lload_n 1, 1) := by decide +kernel
theorem d1_11 : decode prog_18_method_1_code 11 = .ok (.lload_n 1, 1) := by decide +kernel
theorem d1_12 : decode prog_18_method_1_code 12 = .ok (.ldc2_w 13, 3) := by decide +kernel
theorem d1_15 : decode prog_18_method_1_code 15 = .ok (.ldiv, 1) := by decide +kernel
theorem d1_16 : decode prog_18_method_1_code 16 = .ok (.lsub, 1) := by decide +kernel
theorem d1_17 : decode prog_18_method_1_code 17 = .ok (.putfield 15, 3) := by decide +kernel
theorem d1_20 : decode prog_18_method_1_code 20 = .ok (.return_, 1) := by decide +kernel
theorem pn_1 : plainName "com/example/sandpiper/sandpiper/broker/ReadBudget" = true := by first | (simp [plainName, overriddenIn]; done) | decide +kernel
theorem ef_1 (m : MethodId) (r0 : Addr) (q1 : Int64) : entryFrame m #[(.ref r0), (.long q1)] 3 = mkF m 0 #[.val (.ref r0), .val (.long q1), .second] [] := by first | (simp [entryFrame, mkF, argsToLocals, Value.category]; done) | rfl
def own_f1 (q1 : Int64) (u0 : Int64) (u1 : Int64) (u2 : Int64) : Int32 :=
  (0 : Int32)
def own_Q1 (Z : State) (r0 : Addr) (q1 : Int64) (u0 : Int64) (u1 : Int64) (u2 : Int64) (w : Option Value) (h0 : Heap) (n0 : Nat) (v : Option Value) (h : Heap) (L : List Loc) : Prop := v = w ∧ Fr n0 L ∧ Keep h0 h [r0] ∧ Exa Z h r0 "com/example/sandpiper/sandpiper/broker/ReadBudget" ∧ Fld Z h r0 "com/example/sandpiper/sandpiper/broker/ReadBudget" "most" "J" (.long q1) ∧ Fld Z h r0 "com/example/sandpiper/sandpiper/broker/ReadBudget" "kept" "J" (.long u2)
abbrev own_room1 : Room := { frames := 1, cells := 0, slots := 0, locals := 12 }
set_option maxRecDepth 65536 in
set_option maxHeartbeats 40000000 in
theorem rm1 (l : Launch) (Z : State) (a0 : Array Value) (hw : ∀ d ∈ tables_1, d.before a0 Z = true) (ws : List Jvm.Cond) (r0 : Addr) (q1 : Int64) (u0 : Int64) (u1 : Int64) (u2 : Int64) (h0 : Heap) (n0 : Nat) (Z0 : n0 ≤ h0.size) (E_r0 : Exa Z h0 r0 "com/example/sandpiper/sandpiper/broker/ReadBudget") (F_most_r0 : Fld Z h0 r0 "com/example/sandpiper/sandpiper/broker/ReadBudget" "most" "J" (.long u0)) (F_mostGrown_r0 : Fld Z h0 r0 "com/example/sandpiper/sandpiper/broker/ReadBudget" "mostGrown" "J" (.long u1)) (F_kept_r0 : Fld Z h0 r0 "com/example/sandpiper/sandpiper/broker/ReadBudget" "kept" "J" (.long u2)) (g_r0 : n0 ≤ r0) :
    MetFree l (⟨"com/example/sandpiper/sandpiper/broker/ReadBudget", "<init>", "(J)V"⟩ : MethodName) (head1 (Jvm.Cond.code (⟨"com/example/sandpiper/sandpiper/broker/ReadBudget", "<init>", "(J)V"⟩ : MethodName) prog_18_method_1_code 3 none :: ws) own_room1) (fun a U => a = #[(.ref r0), (.long q1)] ∧ Z.Warmed39 U.vm ∧ U.heap = h0) (fun _ _ _ _ _ => True) (fun _ U o U' => ∃ v L, o = .returned v ∧ own_Q1 Z r0 q1 u0 u1 u2 none h0 n0 v U'.heap L ∧ FrameEnd U o U' L own_room1.cells own_room1.slots) := by
  refine MetFree.of_bodySF (plainFor_of_name pn_1) hisR ?_
  intro p e s m args below meth c s₁ Bd hml0 hP hK
  obtain ⟨rfl, hZ, hh⟩ := hP
  have hx := Bd.exec
  have hby := Bd.bytes
  have hml : c.maxLocals = 3 := hml0
  have hown : s.vm.findClass "com/example/sandpiper/sandpiper/broker/ReadBudget" = some m.cls := findClass_of_methodNamed Bd.named
  have hnm := (name_of_methodNamed Bd.named Bd.method).1
  have X0 : Stand p l e own_room1 s m #[(.ref r0), (.long q1)] below meth c s₁ [] 0 0 := Stand.of_body Bd
  have e0 : s₁.heap = h0 := by rw [← hh, Bd.state]; rfl
  have N0 := Fr.nil n0
  refine own_enter (ef_1 m r0 q1) ?_
  show own_Goes p.tables e below (s₁.setTop (mkF m 0 #[.val (.ref r0), .val (.long q1), .second] [])) (own_P s (own_Q1 Z r0 q1 u0 u1 u2 none h0 n0) own_room1.cells own_room1.slots)
  refine own_step (fun _ => XS.aloadN X0.here hx rfl (hb hby d1_0) rfl rfl) ?_
  show own_Goes p.tables e below (s₁.setTop (mkF m 1 #[.val (.ref r0), .val (.long q1), .second] [(.ref r0)])) _
  obtain ⟨T1, X1, e1, st1⟩ := initO X0 hx hZ hown (hw _ (List.mem_of_getElem? (i := 8) rfl)) (hw _ (List.mem_of_getElem? (i := 9) rfl)) (hw _ (List.mem_of_getElem? (i := 10) rfl)) e0 (g := (mkF m 1 #[.val (.ref r0), .val (.long q1), .second] [(.ref r0)])) rfl (by rw [hml]; rfl) rfl (hb hby d1_1) (by decide) (W := 0) (by show 2 * 0 + _ ≤ _; exact Nat.le_of_eq rfl) (by decide)
  refine own_step (st1) ?_
  show own_Goes p.tables e below (T1.setTop (mkF m 4 #[.val (.ref r0), .val (.long q1), .second] [])) _
  refine own_step (fun _ => XS.aloadN X1.here hx rfl (hb hby d1_4) rfl rfl) ?_
  show own_Goes p.tables e below (T1.setTop (mkF m 5 #[.val (.ref r0), .val (.long q1), .second] [(.ref r0)])) _
  refine own_step (fun _ => XS.lloadN X1.here hx rfl (hb hby d1_5) rfl) ?_
  show own_Goes p.tables e below (T1.setTop (mkF m 6 #[.val (.ref r0), .val (.long q1), .second] [(.long q1), (.ref r0)])) _
  obtain ⟨T2, h2, X2, e2, W2, st2⟩ := putF X1 hx hZ hown (host := "") (Or.inl (hw _ (List.mem_of_getElem? (i := 11) rfl))) Via.refl e1 F_most_r0 E_r0 (Or.inr ⟨(hw _ (List.mem_of_getElem? (i := 12) rfl)), rfl, hnm⟩) (hw _ (List.mem_of_getElem? (i := 3) rfl)) (ty := .long) (by decide) rfl rfl (g := (mkF m 6 #[.val (.ref r0), .val (.long q1), .second] [(.long q1), (.ref r0)])) rfl rfl (hb hby d1_6)
  have E_r0_2 : Exa Z h2 r0 "com/example/sandpiper/sandpiper/broker/ReadBudget" := E_r0.wr W2
  have F_mostGrown_r0_2 : Fld Z h2 r0 "com/example/sandpiper/sandpiper/broker/ReadBudget" "mostGrown" "J" (.long u1) := F_mostGrown_r0.other W2 (Or.inr (slot_ne (Or.inr (hw _ (List.mem_of_getElem? (i := 15) rfl))) (Or.inr (hw _ (List.mem_of_getElem? (i := 12) rfl))) (by decide) (t := .long) (t' := .long) (by decide) (by decide)))
  have F_kept_r0_2 : Fld Z h2 r0 "com/example/sandpiper/sandpiper/broker/ReadBudget" "kept" "J" (.long u2) := F_kept_r0.other W2 (Or.inr (slot_ne (Or.inl (hw _ (List.mem_of_getElem? (i := 26) rfl))) (Or.inr (hw _ (List.mem_of_getElem? (i := 12) rfl))) (by decide) (t := .long) (t' := .long) (by decide) (by decide)))
  have F_most_r0_2 : Fld Z h2 r0 "com/example/sandpiper/sandpiper/broker/ReadBudget" "most" "J" (.long q1) := F_most_r0.same W2
  have K2 : Keep h0 h2 [r0] := (Keep.refl h0 [r0]).wr W2 (Or.inl (List.mem_of_getElem? (i := 0) rfl))
  obtain ⟨Lx2, X2, N2⟩ : ∃ L', Stand p l e own_room1 s m #[(.ref r0), (.long q1)] below meth c T2 L' 0 0 ∧ Fr n0 L' := ⟨_, X2, Fr.snoc X2 N0 g_r0⟩
  have Z2 : n0 ≤ h2.size := Nat.le_trans Z0 K2.1
  refine own_step (st2) ?_
  show own_Goes p.tables e below (T2.setTop (mkF m 9 #[.val (.ref r0), .val (.long q1), .second] [])) _
  refine own_step (fun _ => XS.aloadN X2.here hx rfl (hb hby d1_9) rfl rfl) ?_
  show own_Goes p.tables e below (T2.setTop (mkF m 10 #[.val (.ref r0), .val (.long q1), .second] [(.ref r0)])) _
  refine own_step (fun _ => XS.lloadN X2.here hx rfl (hb hby d1_10) rfl) ?_
  show own_Goes p.tables e below (T2.setTop (mkF m 11 #[.val (.ref r0), .val (.long q1), .second] [(.long q1), (.ref r0)])) _
  refine own_step (fun _ => XS.lloadN X2.here hx rfl (hb hby d1_11) rfl) ?_
  show own_Goes p.tables e below (T2.setTop (mkF m 12 #[.val (.ref r0), .val (.long q1), .second] [(.long q1), (.long q1), (.ref r0)])) _
  refine own_step (X2.ldc2Long hx hown (mvT hZ (hw _ (List.mem_of_getElem? (i := 13) rfl))) (g := (mkF m 12 #[.val (.ref r0), .val (.long q1), .second] [(.long q1), (.long q1), (.ref r0)])) rfl (hb hby d1_12)) ?_
  show own_Goes p.tables e below (T2.setTop (mkF m 15 #[.val (.ref r0), .val (.long q1), .second] [(.long (4 : Int64)), (.long q1), (.long q1), (.ref r0)])) _
  refine own_step (fun _ => XS.ldiv X2.here hx rfl (hb hby d1_15) rfl (by decide)) ?_
  show own_Goes p.tables e below (T2.setTop (mkF m 16 #[.val (.ref r0), .val (.long q1), .second] [(.long (q1 / (4 : Int64))), (.long q1), (.ref r0)])) _
  refine own_step (fun _ => XS.lsub X2.here hx rfl (hb hby d1_16) rfl) ?_
  show own_Goes p.tables e below (T2.setTop (mkF m 17 #[.val (.ref r0), .val (.long q1), .second] [(.long (q1 - (q1 / (4 : Int64)))), (.ref r0)])) _
  obtain ⟨T3, h3, X3, e3, W3, st3⟩ := putF X2 hx hZ hown (host := "") (Or.inl (hw _ (List.mem_of_getElem? (i := 14) rfl))) Via.refl e2 F_mostGrown_r0_2 E_r0_2 (Or.inr ⟨(hw _ (List.mem_of_getElem? (i := 15) rfl)), rfl, hnm⟩) (hw _ (List.mem_of_getElem? (i := 3) rfl)) (ty := .long) (by decide) rfl rfl (g := (mkF m 17 #[.val (.ref r0), .val (.long q1), .second] [(.long (q1 - (q1 / (4 : Int64)))), (.ref r0)])) rfl rfl (hb hby d1_17)
  have E_r0_3 : Exa Z h3 r0 "com/example/sandpiper/sandpiper/broker/ReadBudget" := E_r0_2.wr W3
  have F_kept_r0_3 : Fld Z h3 r0 "com/example/sandpiper/sandpiper/broker/ReadBudget" "kept" "J" (.long u2) := F_kept_r0_2.other W3 (Or.inr (slot_ne (Or.inl (hw _ (List.mem_of_getElem? (i := 26) rfl))) (Or.inr (hw _ (List.mem_of_getElem? (i := 15) rfl))) (by decide) (t := .long) (t' := .long) (by decide) (by decide)))
  have F_most_r0_3 : Fld Z h3 r0 "com/example/sandpiper/sandpiper/broker/ReadBudget" "most" "J" (.long q1) := F_most_r0_2.other W3 (Or.inr (slot_ne (Or.inr (hw _ (List.mem_of_getElem? (i := 12) rfl))) (Or.inr (hw _ (List.mem_of_getElem? (i := 15) rfl))) (by decide) (t := .long) (t' := .long) (by decide) (by decide)))
  have F_mostGrown_r0_3 : Fld Z h3 r0 "com/example/sandpiper/sandpiper/broker/ReadBudget" "mostGrown" "J" (.long (q1 - (q1 / (4 : Int64)))) := F_mostGrown_r0_2.same W3
  have K3 : Keep h0 h3 [r0] := K2.wr W3 (Or.inl (List.mem_of_getElem? (i := 0) rfl))
  obtain ⟨Lx3, X3, N3⟩ : ∃ L', Stand p l e own_room1 s m #[(.ref r0), (.long q1)] below meth c T3 L' 0 0 ∧ Fr n0 L' := ⟨_, X3, Fr.snoc X3 N2 g_r0⟩
  have Z3 : n0 ≤ h3.size := Nat.le_trans Z0 K3.1
  refine own_step (st3) ?_
  show own_Goes p.tables e below (T3.setTop (mkF m 20 #[.val (.ref r0), .val (.long q1), .second] [])) _
  exact own_retV X3 hx Bd.returns (hb hby d1_20) (BodyLoose.notSynchronized Bd) (by rw [e3]; exact ⟨rfl, N3, K3, E_r0_3, F_most_r0_3, F_kept_r0_3⟩) (by decide) (by decide)
theorem d4_0 : decode prog_18_method_5_code 0 = .ok (.aload_n 0, 1) := by decide +kernel
theorem d4_1 : decode prog_18_method_5_code 1 = .ok (.getfield 22, 3) := by decide +kernel
theorem d4_4 : decode prog_18_method_5_code 4 = .ok (.iload_n 1, 1) := by decide +kernel
theorem d4_5 : decode prog_18_method_5_code 5 = .ok (.i2l, 1) := by decide +kernel
theorem d4_6 : decode prog_18_method_5_code 6 = .ok (.ladd, 1) := by decide +kernel
theorem d4_7 : decode prog_18_method_5_code 7 = .ok (.lload_n 2, 1) := by decide +kernel
theorem d4_8 : decode prog_18_method_5_code 8 = .ok (.lcmp, 1) := by decide +kernel
theorem d4_9 : decode prog_18_method_5_code 9 = .ok (.ifCond .le 5, 3) := by decide +kernel
theorem d4_12 : decode prog_18_method_5_code 12 = .ok (.iconst 0, 1) := by decide +kernel
theorem d4_13 : decode prog_18_method_5_code 13 = .ok (.ireturn, 1) := by decide +kernel
theorem d4_14 : decode prog_18_method_5_code 14 = .ok (.aload_n 0, 1) := by decide +kernel
theorem d4_15 : decode prog_18_method_5_code 15 = .ok (.dup, 1) := by decide +kernel
theorem d4_16 : decode prog_18_method_5_code 16 = .ok (.getfield 22, 3) := by decide +kernel
theorem d4_19 : decode prog_18_method_5_code 19 = .ok (.iload_n 1, 1) := by decide +kernel
theorem d4_20 : decode prog_18_method_5_code 20 = .ok (.i2l, 1) := by decide +kernel
theorem d4_21 : decode prog_18_method_5_code 21 = .ok (.ladd, 1) := by decide +kernel
theorem d4_22 : decode prog_18_method_5_code 22 = .ok (.putfield 22, 3) := by decide +kernel
theorem d4_25 : decode prog_18_method_5_code 25 = .ok (.iconst 1, 1) := by decide +kernel
theorem d4_26 : decode prog_18_method_5_code 26 = .ok (.ireturn, 1) := by decide +kernel
theorem pn_4 : plainName "com/example/sandpiper/sandpiper/broker/ReadBudget" = true := by first | (simp [plainName, overriddenIn]; done) | decide +kernel
theorem ef_4 (m : MethodId) (r0 : Addr) (p1 : Int32) (q2 : Int64) : entryFrame m #[(.ref r0), (.int p1), (.long q2)] 4 = mkF m 0 #[.val (.ref r0), .val (.int p1), .val (.long q2), .second] [] := by first | (simp [entryFrame, mkF, argsToLocals, Value.category]; done) | rfl
def own_f4 (p1 : Int32) (q2 : Int64) (u0 : Int64) (u2 : Int64) : Int32 :=
  if q2 < (u2 + (p1.toInt64)) then
    (0 : Int32)
  else
    (1 : Int32)
def own_Q4 (Z : State) (r0 : Addr) (p1 : Int32) (q2 : Int64) (u0 : Int64) (u2 : Int64) (w : Option Value) (h0 : Heap) (n0 : Nat) (v : Option Value) (h : Heap) (L : List Loc) : Prop := v = w ∧ Fr n0 L ∧ Keep h0 h [r0] ∧ Exa Z h r0 "com/example/sandpiper/sandpiper/broker/ReadBudget" ∧ Fld Z h r0 "com/example/sandpiper/sandpiper/broker/ReadBudget" "most" "J" (.long u0) ∧ Fld Z h r0 "com/example/sandpiper/sandpiper/broker/ReadBudget" "kept" "J" (.long (if q2 < (u2 + (p1.toInt64)) then u2 else (u2 + (p1.toInt64))))
abbrev own_room4 : Room := { frames := 0, cells := 0, slots := 0, locals := 0 }
set_option maxRecDepth 65536 in
set_option maxHeartbeats 40000000 in
theorem rm4 (l : Launch) (Z : State) (a0 : Array Value) (hw : ∀ d ∈ tables_1, d.before a0 Z = true) (ws : List Jvm.Cond) (r0 : Addr) (p1 : Int32) (q2 : Int64) (u0 : Int64) (u2 : Int64) (h0 : Heap) (n0 : Nat) (Z0 : n0 ≤ h0.size) (E_r0 : Exa Z h0 r0 "com/example/sandpiper/sandpiper/broker/ReadBudget") (F_most_r0 : Fld Z h0 r0 "com/example/sandpiper/sandpiper/broker/ReadBudget" "most" "J" (.long u0)) (F_kept_r0 : Fld Z h0 r0 "com/example/sandpiper/sandpiper/broker/ReadBudget" "kept" "J" (.long u2)) (g_r0 : n0 ≤ r0) :
    MetFree l (⟨"com/example/sandpiper/sandpiper/broker/ReadBudget", "take", "(IJ)Z"⟩ : MethodName) (head1 (Jvm.Cond.code (⟨"com/example/sandpiper/sandpiper/broker/ReadBudget", "take", "(IJ)Z"⟩ : MethodName) prog_18_method_5_code 4 (some .boolean) :: ws) own_room4) (fun a U => a = #[(.ref r0), (.int p1), (.long q2)] ∧ Z.Warmed39 U.vm ∧ U.heap = h0) (fun _ _ _ _ _ => True) (fun _ U o U' => ∃ v L, o = .returned v ∧ own_Q4 Z r0 p1 q2 u0 u2 (some (.int (own_f4 p1 q2 u0 u2))) h0 n0 v U'.heap L ∧ FrameEnd U o U' L own_room4.cells own_room4.slots) := by
  refine MetFree.of_bodySF (plainFor_of_name pn_4) hisR ?_
  intro p e s m args below meth c s₁ Bd hml0 hP hK
  obtain ⟨rfl, hZ, hh⟩ := hP
  have hx := Bd.exec
  have hby := Bd.bytes
  have hml : c.maxLocals = 4 := hml0
  have hown : s.vm.findClass "com/example/sandpiper/sandpiper/broker/ReadBudget" = some m.cls := findClass_of_methodNamed Bd.named
  have hnm := (name_of_methodNamed Bd.named Bd.method).1
  have X0 : Stand p l e own_room4 s m #[(.ref r0), (.int p1), (.long q2)] below meth c s₁ [] 0 0 := Stand.of_body Bd
  have e0 : s₁.heap = h0 := by rw [← hh, Bd.state]; rfl
  have N0 := Fr.nil n0
  refine own_enter (ef_4 m r0 p1 q2) ?_
  show own_Goes p.tables e below (s₁.setTop (mkF m 0 #[.val (.ref r0), .val (.int p1), .val (.long q2), .second] [])) (own_P s (own_Q4 Z r0 p1 q2 u0 u2 (some (.int (own_f4 p1 q2 u0 u2))) h0 n0) own_room4.cells own_room4.slots)
  refine own_step (fun _ => XS.aloadN X0.here hx rfl (hb hby d4_0) rfl rfl) ?_
  show own_Goes p.tables e below (s₁.setTop (mkF m 1 #[.val (.ref r0), .val (.int p1), .val (.long q2), .second] [(.ref r0)])) _
  obtain ⟨T1, X1, e1, st1⟩ := getF X0 hx hZ hown (host := "") (Or.inl (hw _ (List.mem_of_getElem? (i := 25) rfl))) Via.refl e0 F_kept_r0 (g := (mkF m 1 #[.val (.ref r0), .val (.int p1), .val (.long q2), .second] [(.ref r0)])) rfl rfl (hb hby d4_1)
  refine own_step (st1) ?_
  show own_Goes p.tables e below (T1.setTop (mkF m 4 #[.val (.ref r0), .val (.int p1), .val (.long q2), .second] [(.long u2)])) _
  refine own_step (fun _ => XS.iloadN X1.here hx rfl (hb hby d4_4) rfl) ?_
  show own_Goes p.tables e below (T1.setTop (mkF m 5 #[.val (.ref r0), .val (.int p1), .val (.long q2), .second] [(.int p1), (.long u2)])) _
  refine own_step (fun _ => XS.i2l X1.here hx rfl (hb hby d4_5) rfl) ?_
  show own_Goes p.tables e below (T1.setTop (mkF m 6 #[.val (.ref r0), .val (.int p1), .val (.long q2), .second] [(.long (p1.toInt64)), (.long u2)])) _
  refine own_step (fun _ => XS.ladd X1.here hx rfl (hb hby d4_6) rfl) ?_
  show own_Goes p.tables e below (T1.setTop (mkF m 7 #[.val (.ref r0), .val (.int p1), .val (.long q2), .second] [(.long (u2 + (p1.toInt64)))])) _
  refine own_step (fun _ => XS.lloadN X1.here hx rfl (hb hby d4_7) rfl) ?_
  show own_Goes p.tables e below (T1.setTop (mkF m 8 #[.val (.ref r0), .val (.int p1), .val (.long q2), .second] [(.long q2), (.long (u2 + (p1.toInt64)))])) _
  refine own_step (fun _ => Jvm.Free.XT.lcmp X1.here hx rfl (hb hby d4_8) rfl) ?_
  show own_Goes p.tables e below (T1.setTop (mkF m 9 #[.val (.ref r0), .val (.int p1), .val (.long q2), .second] [(.int (Jvm.Free.XT.cmpL (u2 + (p1.toInt64)) q2))])) _
  by_cases hc9 : q2 < (u2 + (p1.toInt64))
  · refine own_step (fun _ => XS.ifNo X1.here hx rfl (hb hby d4_9) rfl (Jvm.Free.XT.ll_le_f hc9)) ?_
    show own_Goes p.tables e below (T1.setTop (mkF m 12 #[.val (.ref r0), .val (.int p1), .val (.long q2), .second] [])) _
    refine own_step (fun _ => XS.iconst X1.here hx rfl (hb hby d4_12)) ?_
    show own_Goes p.tables e below (T1.setTop (mkF m 13 #[.val (.ref r0), .val (.int p1), .val (.long q2), .second] [(.int (0 : Int32))])) _
    have hv : (own_f4 p1 q2 u0 u2) = (0 : Int32) := by exact (if_pos hc9)
    rw [hv]
    exact own_retN X1 hx (t := .boolean) Bd.returns (by simp) (hb hby d4_13) (BodyLoose.notSynchronized Bd) (w := (0 : Int32)) rfl (by rw [e1]; exact ⟨rfl, N0, (Keep.refl h0 [r0]), (by first | exact E_r0 | (rw [if_pos hc9]; exact E_r0)), (by first | exact F_most_r0 | (rw [if_pos hc9]; exact F_most_r0)), (by first | exact F_kept_r0 | (rw [if_pos hc9]; exact F_kept_r0))⟩) (by decide) (by decide)
  · refine own_step (fun _ => XS.ifYes X1.here hx rfl (pc0 := 9) (pc' := 14) rfl (hb hby d4_9) rfl (Jvm.Free.XT.ll_le_t hc9) (by decide) (by decide)) ?_
    show own_Goes p.tables e below (T1.setTop (mkF m 14 #[.val (.ref r0), .val (.int p1), .val (.long q2), .second] [])) _
    refine own_step (fun _ => XS.aloadN X1.here hx rfl (hb hby d4_14) rfl rfl) ?_
    show own_Goes p.tables e below (T1.setTop (mkF m 15 #[.val (.ref r0), .val (.int p1), .val (.long q2), .second] [(.ref r0)])) _
    refine own_step (fun _ => XS.dup X1.here hx rfl (hb hby d4_15) rfl rfl) ?_
    show own_Goes p.tables e below (T1.setTop (mkF m 16 #[.val (.ref r0), .val (.int p1), .val (.long q2), .second] [(.ref r0), (.ref r0)])) _
    obtain ⟨T2, X2, e2, st2⟩ := getF X1 hx hZ hown (host := "") (Or.inl (hw _ (List.mem_of_getElem? (i := 25) rfl))) Via.refl e1 F_kept_r0 (g := (mkF m 16 #[.val (.ref r0), .val (.int p1), .val (.long q2), .second] [(.ref r0), (.ref r0)])) rfl rfl (hb hby d4_16)
    refine own_step (st2) ?_
    show own_Goes p.tables e below (T2.setTop (mkF m 19 #[.val (.ref r0), .val (.int p1), .val (.long q2), .second] [(.long u2), (.ref r0)])) _
    refine own_step (fun _ => XS.iloadN X2.here hx rfl (hb hby d4_19) rfl) ?_
    show own_Goes p.tables e below (T2.setTop (mkF m 20 #[.val (.ref r0), .val (.int p1), .val (.long q2), .second] [(.int p1), (.long u2), (.ref r0)])) _
    refine own_step (fun _ => XS.i2l X2.here hx rfl (hb hby d4_20) rfl) ?_
    show own_Goes p.tables e below (T2.setTop (mkF m 21 #[.val (.ref r0), .val (.int p1), .val (.long q2), .second] [(.long (p1.toInt64)), (.long u2), (.ref r0)])) _
    refine own_step (fun _ => XS.ladd X2.here hx rfl (hb hby d4_21) rfl) ?_
    show own_Goes p.tables e below (T2.setTop (mkF m 22 #[.val (.ref r0), .val (.int p1), .val (.long q2), .second] [(.long (u2 + (p1.toInt64))), (.ref r0)])) _
    obtain ⟨T3, h3, X3, e3, W3, st3⟩ := putF X2 hx hZ hown (host := "") (Or.inl (hw _ (List.mem_of_getElem? (i := 25) rfl))) Via.refl e2 F_kept_r0 E_r0 (Or.inl (hw _ (List.mem_of_getElem? (i := 26) rfl))) (hw _ (List.mem_of_getElem? (i := 3) rfl)) (ty := .long) (by decide) rfl rfl (g := (mkF m 22 #[.val (.ref r0), .val (.int p1), .val (.long q2), .second] [(.long (u2 + (p1.toInt64))), (.ref r0)])) rfl rfl (hb hby d4_22)
    have E_r0_3 : Exa Z h3 r0 "com/example/sandpiper/sandpiper/broker/ReadBudget" := E_r0.wr W3
    have F_most_r0_3 : Fld Z h3 r0 "com/example/sandpiper/sandpiper/broker/ReadBudget" "most" "J" (.long u0) := F_most_r0.other W3 (Or.inr (slot_ne (Or.inr (hw _ (List.mem_of_getElem? (i := 12) rfl))) (Or.inl (hw _ (List.mem_of_getElem? (i := 26) rfl))) (by decide) (t := .long) (t' := .long) (by decide) (by decide)))
    have F_kept_r0_3 : Fld Z h3 r0 "com/example/sandpiper/sandpiper/broker/ReadBudget" "kept" "J" (.long (u2 + (p1.toInt64))) := F_kept_r0.same W3
    have K3 : Keep h0 h3 [r0] := (Keep.refl h0 [r0]).wr W3 (Or.inl (List.mem_of_getElem? (i := 0) rfl))
    obtain ⟨Lx3, X3, N3⟩ : ∃ L', Stand p l e own_room4 s m #[(.ref r0), (.int p1), (.long q2)] below meth c T3 L' 0 0 ∧ Fr n0 L' := ⟨_, X3, Fr.snoc X3 N0 g_r0⟩
    have Z3 : n0 ≤ h3.size := Nat.le_trans Z0 K3.1
    refine own_step (st3) ?_
    show own_Goes p.tables e below (T3.setTop (mkF m 25 #[.val (.ref r0), .val (.int p1), .val (.long q2), .second] [])) _
    refine own_step (fun _ => XS.iconst X3.here hx rfl (hb hby d4_25)) ?_
    show own_Goes p.tables e below (T3.setTop (mkF m 26 #[.val (.ref r0), .val (.int p1), .val (.long q2), .second] [(.int (1 : Int32))])) _
    have hv : (own_f4 p1 q2 u0 u2) = (1 : Int32) := by exact (if_neg hc9)
    rw [hv]
    exact own_retN X3 hx (t := .boolean) Bd.returns (by simp) (hb hby d4_26) (BodyLoose.notSynchronized Bd) (w := (1 : Int32)) rfl (by rw [e3]; exact ⟨rfl, N3, K3, (by first | exact E_r0_3 | (rw [if_neg hc9]; exact E_r0_3)), (by first | exact F_most_r0_3 | (rw [if_neg hc9]; exact F_most_r0_3)), (by first | exact F_kept_r0_3 | (rw [if_neg hc9]; exact F_kept_r0_3))⟩) (by decide) (by decide)
theorem d3_0 : decode prog_18_method_2_code 0 = .ok (.aload_n 0, 1) := by decide +kernel
theorem d3_1 : decode prog_18_method_2_code 1 = .ok (.iload_n 1, 1) := by decide +kernel
theorem d3_2 : decode prog_18_method_2_code 2 = .ok (.aload_n 0, 1) := by decide +kernel
theorem d3_3 : decode prog_18_method_2_code 3 = .ok (.getfield 7, 3) := by decide +kernel
theorem d3_6 : decode prog_18_method_2_code 6 = .ok (.invokevirtual 18, 3) := by decide +kernel
theorem d3_9 : decode prog_18_method_2_code 9 = .ok (.ireturn, 1) := by decide +kernel
theorem pn_3 : plainName "com/example/sandpiper/sandpiper/broker/ReadBudget" = true := by first | (simp [plainName, overriddenIn]; done) | decide +kernel
theorem pd_3_0 : parseMethodDescriptor "(IJ)Z" = some ⟨[.int, .long], some .boolean⟩ := by decide +kernel
theorem ef_3 (m : MethodId) (r0 : Addr) (p1 : Int32) : entryFrame m #[(.ref r0), (.int p1)] 2 = mkF m 0 #[.val (.ref r0), .val (.int p1)] [] := by first | (simp [entryFrame, mkF, argsToLocals, Value.category]; done) | rfl
def own_f3 (p1 : Int32) (u0 : Int64) (u2 : Int64) : Int32 :=
  (nar .boolean (own_f4 p1 u0 u0 u2))
def own_Q3 (Z : State) (r0 : Addr) (p1 : Int32) (u0 : Int64) (u2 : Int64) (w : Option Value) (h0 : Heap) (n0 : Nat) (v : Option Value) (h : Heap) (L : List Loc) : Prop := v = w ∧ Fr n0 L ∧ Keep h0 h [r0] ∧ Exa Z h r0 "com/example/sandpiper/sandpiper/broker/ReadBudget" ∧ Fld Z h r0 "com/example/sandpiper/sandpiper/broker/ReadBudget" "most" "J" (.long u0) ∧ Fld Z h r0 "com/example/sandpiper/sandpiper/broker/ReadBudget" "kept" "J" (.long (if u0 < (u2 + (p1.toInt64)) then u2 else (u2 + (p1.toInt64))))
abbrev own_room3 : Room := { frames := 1, cells := 0, slots := 0, locals := 15 }
set_option maxRecDepth 65536 in
set_option maxHeartbeats 40000000 in
theorem rm3 (l : Launch) (Z : State) (a0 : Array Value) (hw : ∀ d ∈ tables_1, d.before a0 Z = true) (ws : List Jvm.Cond) (r0 : Addr) (p1 : Int32) (u0 : Int64) (u2 : Int64) (h0 : Heap) (n0 : Nat) (Z0 : n0 ≤ h0.size) (E_r0 : Exa Z h0 r0 "com/example/sandpiper/sandpiper/broker/ReadBudget") (F_most_r0 : Fld Z h0 r0 "com/example/sandpiper/sandpiper/broker/ReadBudget" "most" "J" (.long u0)) (F_kept_r0 : Fld Z h0 r0 "com/example/sandpiper/sandpiper/broker/ReadBudget" "kept" "J" (.long u2)) (g_r0 : n0 ≤ r0) :
    MetFree l (⟨"com/example/sandpiper/sandpiper/broker/ReadBudget", "takeFirst", "(I)Z"⟩ : MethodName) (head1 (Jvm.Cond.code (⟨"com/example/sandpiper/sandpiper/broker/ReadBudget", "takeFirst", "(I)Z"⟩ : MethodName) prog_18_method_2_code 2 (some .boolean) :: ws) own_room3) (fun a U => a = #[(.ref r0), (.int p1)] ∧ Z.Warmed39 U.vm ∧ U.heap = h0) (fun _ _ _ _ _ => True) (fun _ U o U' => ∃ v L, o = .returned v ∧ own_Q3 Z r0 p1 u0 u2 (some (.int (own_f3 p1 u0 u2))) h0 n0 v U'.heap L ∧ FrameEnd U o U' L own_room3.cells own_room3.slots) := by
  refine MetFree.of_bodySF (plainFor_of_name pn_3) hisR ?_
  intro p e s m args below meth c s₁ Bd hml0 hP hK
  obtain ⟨rfl, hZ, hh⟩ := hP
  have hx := Bd.exec
  have hby := Bd.bytes
  have hml : c.maxLocals = 2 := hml0
  have hown : s.vm.findClass "com/example/sandpiper/sandpiper/broker/ReadBudget" = some m.cls := findClass_of_methodNamed Bd.named
  have hnm := (name_of_methodNamed Bd.named Bd.method).1
  have X0 : Stand p l e own_room3 s m #[(.ref r0), (.int p1)] below meth c s₁ [] 0 0 := Stand.of_body Bd
  have e0 : s₁.heap = h0 := by rw [← hh, Bd.state]; rfl
  have N0 := Fr.nil n0
  refine own_enter (ef_3 m r0 p1) ?_
  show own_Goes p.tables e below (s₁.setTop (mkF m 0 #[.val (.ref r0), .val (.int p1)] [])) (own_P s (own_Q3 Z r0 p1 u0 u2 (some (.int (own_f3 p1 u0 u2))) h0 n0) own_room3.cells own_room3.slots)
  refine own_step (fun _ => XS.aloadN X0.here hx rfl (hb hby d3_0) rfl rfl) ?_
  show own_Goes p.tables e below (s₁.setTop (mkF m 1 #[.val (.ref r0), .val (.int p1)] [(.ref r0)])) _
  refine own_step (fun _ => XS.iloadN X0.here hx rfl (hb hby d3_1) rfl) ?_
  show own_Goes p.tables e below (s₁.setTop (mkF m 2 #[.val (.ref r0), .val (.int p1)] [(.int p1), (.ref r0)])) _
  refine own_step (fun _ => XS.aloadN X0.here hx rfl (hb hby d3_2) rfl rfl) ?_
  show own_Goes p.tables e below (s₁.setTop (mkF m 3 #[.val (.ref r0), .val (.int p1)] [(.ref r0), (.int p1), (.ref r0)])) _
  obtain ⟨T1, X1, e1, st1⟩ := getF X0 hx hZ hown (host := "") (Or.inl (hw _ (List.mem_of_getElem? (i := 11) rfl))) Via.refl e0 F_most_r0 (g := (mkF m 3 #[.val (.ref r0), .val (.int p1)] [(.ref r0), (.int p1), (.ref r0)])) rfl rfl (hb hby d3_3)
  refine own_step (st1) ?_
  show own_Goes p.tables e below (T1.setTop (mkF m 6 #[.val (.ref r0), .val (.int p1)] [(.long u0), (.int p1), (.ref r0)])) _
  obtain ⟨cq2, q2, q2'⟩ := E_r0.cell
  obtain ⟨_, _, ⟨T2, L2, k2, n2⟩, -, X2, ⟨Lc2, hQ2, l2, y2, z2⟩, st2⟩ := X1.privateBack hx (y := (⟨"com/example/sandpiper/sandpiper/broker/ReadBudget", "take", "(IJ)Z"⟩ : MethodName)) hown (mvT hZ (hw _ (List.mem_of_getElem? (i := 21) rfl))) (mvT hZ (hw _ (List.mem_of_getElem? (i := 22) rfl))) (own_selpriv (args' := #[]) (mvT hZ (hw _ (List.mem_of_getElem? (i := 19) rfl))) rfl (mvP hZ (hw _ (List.mem_of_getElem? (i := 23) rfl))) (mvT hZ (hw _ (List.mem_of_getElem? (i := 22) rfl))) (by decide)) (Cond.privateMethod_at (mvP hZ (hw _ (List.mem_of_getElem? (i := 23) rfl)) (args := #[]))) (mvT hZ (hw _ (List.mem_of_getElem? (i := 24) rfl))) (by decide) (backOf (W := 0) (rm4 l Z a0 hw [] r0 p1 u0 u0 u2 h0 n0 Z0 E_r0 F_most_r0 F_kept_r0 g_r0) hZ (hw _ (List.mem_of_getElem? (i := 24) rfl)) (hw _ (List.mem_of_getElem? (i := 4) rfl)) (by decide) (by decide)) (g := (mkF m 6 #[.val (.ref r0), .val (.int p1)] [(.long u0), (.int p1), (.ref r0)])) rfl (by rw [hml]; rfl) (Steps.refl _) (a := r0) (by rw [e1]; exact q2) q2' (argsL := [(.int p1), (.long u0)]) (rest := []) (lenOf pd_3_0 rfl) rfl (by show 2 * 0 + _ ≤ _; exact Nat.le_of_eq rfl) (hb hby d3_6) (fun _ _ => ⟨rfl, e1, (by decide : 0 + 0 ≤ _), (by decide : 0 + 0 ≤ _)⟩)
  dsimp only [Pt.U, Pt.locs, Pt.cells, Pt.slots] at X2 l2 y2 z2 st2 hQ2
  subst y2 z2
  obtain ⟨rfl, Nq2, Kq2, E_r0_2, F_most_r0_2, F_kept_r0_2⟩ := hQ2
  have N2 : Fr n0 L2 := by rw [l2]; exact Fr.app N0 Nq2
  have Z2 : n0 ≤ T2.heap.size := Nat.le_trans Z0 Kq2.1
  have K2 : Keep h0 T2.heap [r0] := (Keep.refl h0 [r0]).trans Kq2 (allS (Or.inl (List.mem_of_getElem? (i := 0) rfl)) all0)
  refine own_step (fun _ k => st2.trans k) ?_
  show own_Goes p.tables e below (T2.setTop (mkF m 9 #[.val (.ref r0), .val (.int p1)] [(.int (own_f4 p1 u0 u0 u2))])) _
  have hv : (own_f3 p1 u0 u2) = (nar .boolean (own_f4 p1 u0 u0 u2)) := by exact rfl
  rw [hv]
  exact own_retN X2 hx (t := .boolean) Bd.returns (by simp) (hb hby d3_9) (BodyLoose.notSynchronized Bd) (w := (nar .boolean (own_f4 p1 u0 u0 u2))) rfl ⟨rfl, N2, K2, E_r0_2, F_most_r0_2, F_kept_r0_2⟩ (by decide) (by decide)
theorem d5_0 : decode prog_18_method_4_code 0 = .ok (.aload_n 0, 1) := by decide +kernel
theorem d5_1 : decode prog_18_method_4_code 1 = .ok (.dup, 1) := by decide +kernel
theorem d5_2 : decode prog_18_method_4_code 2 = .ok (.getfield 22, 3) := by decide +kernel
theorem d5_5 : decode prog_18_method_4_code 5 = .ok (.iload_n 1, 1) := by decide +kernel
theorem d5_6 : decode prog_18_method_4_code 6 = .ok (.i2l, 1) := by decide +kernel
theorem d5_7 : decode prog_18_method_4_code 7 = .ok (.lsub, 1) := by decide +kernel
theorem d5_8 : decode prog_18_method_4_code 8 = .ok (.putfield 22, 3) := by decide +kernel
theorem d5_11 : decode prog_18_method_4_code 11 = .ok (.return_, 1) := by decide +kernel
theorem pn_5 : plainName "com/example/sandpiper/sandpiper/broker/ReadBudget" = true := by first | (simp [plainName, overriddenIn]; done) | decide +kernel
theorem ef_5 (m : MethodId) (r0 : Addr) (p1 : Int32) : entryFrame m #[(.ref r0), (.int p1)] 2 = mkF m 0 #[.val (.ref r0), .val (.int p1)] [] := by first | (simp [entryFrame, mkF, argsToLocals, Value.category]; done) | rfl
def own_f5 (p1 : Int32) (u0 : Int64) (u2 : Int64) : Int32 :=
  (0 : Int32)
def own_Q5 (Z : State) (r0 : Addr) (p1 : Int32) (u0 : Int64) (u2 : Int64) (w : Option Value) (h0 : Heap) (n0 : Nat) (v : Option Value) (h : Heap) (L : List Loc) : Prop := v = w ∧ Fr n0 L ∧ Keep h0 h [r0] ∧ Exa Z h r0 "com/example/sandpiper/sandpiper/broker/ReadBudget" ∧ Fld Z h r0 "com/example/sandpiper/sandpiper/broker/ReadBudget" "most" "J" (.long u0) ∧ Fld Z h r0 "com/example/sandpiper/sandpiper/broker/ReadBudget" "kept" "J" (.long (u2 - (p1.toInt64)))
abbrev own_room5 : Room := { frames := 0, cells := 0, slots := 0, locals := 0 }
set_option maxRecDepth 65536 in
set_option maxHeartbeats 40000000 in
theorem rm5 (l : Launch) (Z : State) (a0 : Array Value) (hw : ∀ d ∈ tables_1, d.before a0 Z = true) (ws : List Jvm.Cond) (r0 : Addr) (p1 : Int32) (u0 : Int64) (u2 : Int64) (h0 : Heap) (n0 : Nat) (Z0 : n0 ≤ h0.size) (E_r0 : Exa Z h0 r0 "com/example/sandpiper/sandpiper/broker/ReadBudget") (F_most_r0 : Fld Z h0 r0 "com/example/sandpiper/sandpiper/broker/ReadBudget" "most" "J" (.long u0)) (F_kept_r0 : Fld Z h0 r0 "com/example/sandpiper/sandpiper/broker/ReadBudget" "kept" "J" (.long u2)) (g_r0 : n0 ≤ r0) :
    MetFree l (⟨"com/example/sandpiper/sandpiper/broker/ReadBudget", "giveBack", "(I)V"⟩ : MethodName) (head1 (Jvm.Cond.code (⟨"com/example/sandpiper/sandpiper/broker/ReadBudget", "giveBack", "(I)V"⟩ : MethodName) prog_18_method_4_code 2 none :: ws) own_room5) (fun a U => a = #[(.ref r0), (.int p1)] ∧ Z.Warmed39 U.vm ∧ U.heap = h0) (fun _ _ _ _ _ => True) (fun _ U o U' => ∃ v L, o = .returned v ∧ own_Q5 Z r0 p1 u0 u2 none h0 n0 v U'.heap L ∧ FrameEnd U o U' L own_room5.cells own_room5.slots) := by
  refine MetFree.of_bodySF (plainFor_of_name pn_5) hisR ?_
  intro p e s m args below meth c s₁ Bd hml0 hP hK
  obtain ⟨rfl, hZ, hh⟩ := hP
  have hx := Bd.exec
  have hby := Bd.bytes
  have hml : c.maxLocals = 2 := hml0
  have hown : s.vm.findClass "com/example/sandpiper/sandpiper/broker/ReadBudget" = some m.cls := findClass_of_methodNamed Bd.named
  have hnm := (name_of_methodNamed Bd.named Bd.method).1
  have X0 : Stand p l e own_room5 s m #[(.ref r0), (.int p1)] below meth c s₁ [] 0 0 := Stand.of_body Bd
  have e0 : s₁.heap = h0 := by rw [← hh, Bd.state]; rfl
  have N0 := Fr.nil n0
  refine own_enter (ef_5 m r0 p1) ?_
  show own_Goes p.tables e below (s₁.setTop (mkF m 0 #[.val (.ref r0), .val (.int p1)] [])) (own_P s (own_Q5 Z r0 p1 u0 u2 none h0 n0) own_room5.cells own_room5.slots)
  refine own_step (fun _ => XS.aloadN X0.here hx rfl (hb hby d5_0) rfl rfl) ?_
  show own_Goes p.tables e below (s₁.setTop (mkF m 1 #[.val (.ref r0), .val (.int p1)] [(.ref r0)])) _
  refine own_step (fun _ => XS.dup X0.here hx rfl (hb hby d5_1) rfl rfl) ?_
  show own_Goes p.tables e below (s₁.setTop (mkF m 2 #[.val (.ref r0), .val (.int p1)] [(.ref r0), (.ref r0)])) _
  obtain ⟨T1, X1, e1, st1⟩ := getF X0 hx hZ hown (host := "") (Or.inl (hw _ (List.mem_of_getElem? (i := 25) rfl))) Via.refl e0 F_kept_r0 (g := (mkF m 2 #[.val (.ref r0), .val (.int p1)] [(.ref r0), (.ref r0)])) rfl rfl (hb hby d5_2)
  refine own_step (st1) ?_
  show own_Goes p.tables e below (T1.setTop (mkF m 5 #[.val (.ref r0), .val (.int p1)] [(.long u2), (.ref r0)])) _
  refine own_step (fun _ => XS.iloadN X1.here hx rfl (hb hby d5_5) rfl) ?_
  show own_Goes p.tables e below (T1.setTop (mkF m 6 #[.val (.ref r0), .val (.int p1)] [(.int p1), (.long u2), (.ref r0)])) _
  refine own_step (fun _ => XS.i2l X1.here hx rfl (hb hby d5_6) rfl) ?_
  show own_Goes p.tables e below (T1.setTop (mkF m 7 #[.val (.ref r0), .val (.int p1)] [(.long (p1.toInt64)), (.long u2), (.ref r0)])) _
  refine own_step (fun _ => XS.lsub X1.here hx rfl (hb hby d5_7) rfl) ?_
  show own_Goes p.tables e below (T1.setTop (mkF m 8 #[.val (.ref r0), .val (.int p1)] [(.long (u2 - (p1.toInt64))), (.ref r0)])) _
  obtain ⟨T2, h2, X2, e2, W2, st2⟩ := putF X1 hx hZ hown (host := "") (Or.inl (hw _ (List.mem_of_getElem? (i := 25) rfl))) Via.refl e1 F_kept_r0 E_r0 (Or.inl (hw _ (List.mem_of_getElem? (i := 26) rfl))) (hw _ (List.mem_of_getElem? (i := 3) rfl)) (ty := .long) (by decide) rfl rfl (g := (mkF m 8 #[.val (.ref r0), .val (.int p1)] [(.long (u2 - (p1.toInt64))), (.ref r0)])) rfl rfl (hb hby d5_8)
  have E_r0_2 : Exa Z h2 r0 "com/example/sandpiper/sandpiper/broker/ReadBudget" := E_r0.wr W2
  have F_most_r0_2 : Fld Z h2 r0 "com/example/sandpiper/sandpiper/broker/ReadBudget" "most" "J" (.long u0) := F_most_r0.other W2 (Or.inr (slot_ne (Or.inr (hw _ (List.mem_of_getElem? (i := 12) rfl))) (Or.inl (hw _ (List.mem_of_getElem? (i := 26) rfl))) (by decide) (t := .long) (t' := .long) (by decide) (by decide)))
  have F_kept_r0_2 : Fld Z h2 r0 "com/example/sandpiper/sandpiper/broker/ReadBudget" "kept" "J" (.long (u2 - (p1.toInt64))) := F_kept_r0.same W2
  have K2 : Keep h0 h2 [r0] := (Keep.refl h0 [r0]).wr W2 (Or.inl (List.mem_of_getElem? (i := 0) rfl))
  obtain ⟨Lx2, X2, N2⟩ : ∃ L', Stand p l e own_room5 s m #[(.ref r0), (.int p1)] below meth c T2 L' 0 0 ∧ Fr n0 L' := ⟨_, X2, Fr.snoc X2 N0 g_r0⟩
  have Z2 : n0 ≤ h2.size := Nat.le_trans Z0 K2.1
  refine own_step (st2) ?_
  show own_Goes p.tables e below (T2.setTop (mkF m 11 #[.val (.ref r0), .val (.int p1)] [])) _
  exact own_retV X2 hx Bd.returns (hb hby d5_11) (BodyLoose.notSynchronized Bd) (by rw [e2]; exact ⟨rfl, N2, K2, E_r0_2, F_most_r0_2, F_kept_r0_2⟩) (by decide) (by decide)
theorem pn_0 : plainName "com/example/sandpiper/sandpiper/broker/ReadBudgetGiveBackPinLaw" = true := by first | (simp [plainName, overriddenIn]; done) | decide +kernel
theorem pd_0_0 : parseMethodDescriptor "(J)V" = some ⟨[.long], none⟩ := by decide +kernel
theorem pd_0_1 : parseMethodDescriptor "(I)Z" = some ⟨[.int], some .boolean⟩ := by decide +kernel
theorem pd_0_2 : parseMethodDescriptor "(I)V" = some ⟨[.int], none⟩ := by decide +kernel
theorem ef_0 (m : MethodId) (p0 : Int32) (p1 : Int32) (p2 : Int32) : entryFrame m #[(.int p0), (.int p1), (.int p2)] maxLocals = mkF m 0 #[.val (.int p0), .val (.int p1), .val (.int p2), .unset, .unset, .unset, .unset, .unset, .unset, .unset, .unset] [] := by first | (simp [entryFrame, mkF, argsToLocals, Value.category, maxLocals]; done) | rfl
def own_f0_98 : Int32 :=
  (0 : Int32)
def own_f0 (p0 : Int32) (p1 : Int32) (p2 : Int32) : Int32 :=
  let z13 : Int32 := ((p1 &&& (2147483647 : Int32)) - (p1 &&& (2147483647 : Int32)) / ((p0 &&& (1073741823 : Int32)) + (1 : Int32)) * ((p0 &&& (1073741823 : Int32)) + (1 : Int32)))
  let z24 : Int32 := ((p2 &&& (2147483647 : Int32)) - (p2 &&& (2147483647 : Int32)) / (z13 + (1 : Int32)) * (z13 + (1 : Int32)))
  let z33 : Int32 := ((p0 &&& (1073741823 : Int32)) - (z13 - z24))
  let z53 : Int32 := (own_f3 z13 ((p0 &&& (1073741823 : Int32)).toInt64) (0 : Int64))
  let z69 : Int32 := (own_f3 z33 ((p0 &&& (1073741823 : Int32)).toInt64) ((if ((p0 &&& (1073741823 : Int32)).toInt64) < ((0 : Int64) + (z13.toInt64)) then (0 : Int64) else ((0 : Int64) + (z13.toInt64))) - (z24.toInt64)))
  let z77 : Int32 := (own_f3 (1 : Int32) ((p0 &&& (1073741823 : Int32)).toInt64) (if ((p0 &&& (1073741823 : Int32)).toInt64) < (((if ((p0 &&& (1073741823 : Int32)).toInt64) < ((0 : Int64) + (z13.toInt64)) then (0 : Int64) else ((0 : Int64) + (z13.toInt64))) - (z24.toInt64)) + (z33.toInt64)) then ((if ((p0 &&& (1073741823 : Int32)).toInt64) < ((0 : Int64) + (z13.toInt64)) then (0 : Int64) else ((0 : Int64) + (z13.toInt64))) - (z24.toInt64)) else (((if ((p0 &&& (1073741823 : Int32)).toInt64) < ((0 : Int64) + (z13.toInt64)) then (0 : Int64) else ((0 : Int64) + (z13.toInt64))) - (z24.toInt64)) + (z33.toInt64))))
  if z53 = 0 then
    (own_f0_98)
  else
    if z69 = 0 then
      (own_f0_98)
    else
      if z77 = 0 then
        (1 : Int32)
      else
        (own_f0_98)
set_option maxRecDepth 65536 in
set_option maxHeartbeats 40000000 in
theorem rm0 (l : Launch) (Z : State) (a0 : Array Value) (hw : ∀ d ∈ tables_1, d.before a0 Z = true) (ws : List Jvm.Cond) (p0 : Int32) (p1 : Int32) (p2 : Int32) (h0 : Heap) (n0 : Nat) (Z0 : n0 ≤ h0.size) :
    MetFree l x (head1 (Jvm.Cond.code x code maxLocals ret :: ws) room_1) (fun a U => a = #[(.int p0), (.int p1), (.int p2)] ∧ Z.Warmed39 U.vm ∧ U.heap = h0) (fun _ _ _ _ _ => True) (fun _ U o U' => ∃ v L, o = .returned v ∧ own_Ql (some (.int (own_f0 p0 p1 p2))) n0 v U'.heap L ∧ FrameEnd U o U' L 1 3) := by
  refine MetFree.of_bodySF (plainFor_of_name pn_0) hisR ?_
  intro p e s m args below meth c s₁ Bd hml0 hP hK
  obtain ⟨rfl, hZ, hh⟩ := hP
  have hx := Bd.exec
  have hby := Bd.bytes
  have hml : c.maxLocals = 11 := hml0
  have hown : s.vm.findClass "com/example/sandpiper/sandpiper/broker/ReadBudgetGiveBackPinLaw" = some m.cls := findClass_of_methodNamed Bd.named
  have hnm := (name_of_methodNamed Bd.named Bd.method).1
  have X0 : Stand p l e room_1 s m #[(.int p0), (.int p1), (.int p2)] below meth c s₁ [] 0 0 := Stand.of_body Bd
  have e0 : s₁.heap = h0 := by rw [← hh, Bd.state]; rfl
  have N0 := Fr.nil n0
  refine own_enter (ef_0 m p0 p1 p2) ?_
  show own_Goes p.tables e below (s₁.setTop (mkF m 0 #[.val (.int p0), .val (.int p1), .val (.int p2), .unset, .unset, .unset, .unset, .unset, .unset, .unset, .unset] [])) (own_P s (own_Ql (some (.int (own_f0 p0 p1 p2))) n0) 1 3)
  refine own_step (fun _ => XS.iloadN X0.here hx rfl (hb hby at_0) rfl) ?_
  show own_Goes p.tables e below (s₁.setTop (mkF m 1 #[.val (.int p0), .val (.int p1), .val (.int p2), .unset, .unset, .unset, .unset, .unset, .unset, .unset, .unset] [(.int p0)])) _
  refine own_step (X0.ldcInt hx hown (mvT hZ (hw _ (List.mem_of_getElem? (i := 0) rfl))) (g := (mkF m 1 #[.val (.int p0), .val (.int p1), .val (.int p2), .unset, .unset, .unset, .unset, .unset, .unset, .unset, .unset] [(.int p0)])) rfl (hb hby at_1)) ?_
  show own_Goes p.tables e below (s₁.setTop (mkF m 3 #[.val (.int p0), .val (.int p1), .val (.int p2), .unset, .unset, .unset, .unset, .unset, .unset, .unset, .unset] [(.int (1073741823 : Int32)), (.int p0)])) _
  refine own_step (fun _ => XS.iand X0.here hx rfl (hb hby at_3) rfl) ?_
  show own_Goes p.tables e below (s₁.setTop (mkF m 4 #[.val (.int p0), .val (.int p1), .val (.int p2), .unset, .unset, .unset, .unset, .unset, .unset, .unset, .unset] [(.int (p0 &&& (1073741823 : Int32)))])) _
  refine own_step (fun _ => XS.istoreN X0.here hx rfl (hb hby at_4) rfl (l' := #[.val (.int p0), .val (.int p1), .val (.int p2), .val (.int (p0 &&& (1073741823 : Int32))), .unset, .unset, .unset, .unset, .unset, .unset, .unset]) rfl) ?_
  show own_Goes p.tables e below (s₁.setTop (mkF m 5 #[.val (.int p0), .val (.int p1), .val (.int p2), .val (.int (p0 &&& (1073741823 : Int32))), .unset, .unset, .unset, .unset, .unset, .unset, .unset] [])) _
  refine own_step (fun _ => XS.iloadN X0.here hx rfl (hb hby at_5) rfl) ?_
  show own_Goes p.tables e below (s₁.setTop (mkF m 6 #[.val (.int p0), .val (.int p1), .val (.int p2), .val (.int (p0 &&& (1073741823 : Int32))), .unset, .unset, .unset, .unset, .unset, .unset, .unset] [(.int p1)])) _
  refine own_step (X0.ldcInt hx hown (mvT hZ (hw _ (List.mem_of_getElem? (i := 1) rfl))) (g := (mkF m 6 #[.val (.int p0), .val (.int p1), .val (.int p2), .val (.int (p0 &&& (1073741823 : Int32))), .unset, .unset, .unset, .unset, .unset, .unset, .unset] [(.int p1)])) rfl (hb hby at_6)) ?_
  show own_Goes p.tables e below (s₁.setTop (mkF m 8 #[.val (.int p0), .val (.int p1), .val (.int p2), .val (.int (p0 &&& (1073741823 : Int32))), .unset, .unset, .unset, .unset, .unset, .unset, .unset] [(.int (2147483647 : Int32)), (.int p1)])) _
  refine own_step (fun _ => XS.iand X0.here hx rfl (hb hby at_8) rfl) ?_
  show own_Goes p.tables e below (s₁.setTop (mkF m 9 #[.val (.int p0), .val (.int p1), .val (.int p2), .val (.int (p0 &&& (1073741823 : Int32))), .unset, .unset, .unset, .unset, .unset, .unset, .unset] [(.int (p1 &&& (2147483647 : Int32)))])) _
  refine own_step (fun _ => XS.iloadN X0.here hx rfl (hb hby at_9) rfl) ?_
  show own_Goes p.tables e below (s₁.setTop (mkF m 10 #[.val (.int p0), .val (.int p1), .val (.int p2), .val (.int (p0 &&& (1073741823 : Int32))), .unset, .unset, .unset, .unset, .unset, .unset, .unset] [(.int (p0 &&& (1073741823 : Int32))), (.int (p1 &&& (2147483647 : Int32)))])) _
  refine own_step (fun _ => XS.iconst X0.here hx rfl (hb hby at_10)) ?_
  show own_Goes p.tables e below (s₁.setTop (mkF m 11 #[.val (.int p0), .val (.int p1), .val (.int p2), .val (.int (p0 &&& (1073741823 : Int32))), .unset, .unset, .unset, .unset, .unset, .unset, .unset] [(.int (1 : Int32)), (.int (p0 &&& (1073741823 : Int32))), (.int (p1 &&& (2147483647 : Int32)))])) _
  refine own_step (fun _ => XS.iadd X0.here hx rfl (hb hby at_11) rfl) ?_
  show own_Goes p.tables e below (s₁.setTop (mkF m 12 #[.val (.int p0), .val (.int p1), .val (.int p2), .val (.int (p0 &&& (1073741823 : Int32))), .unset, .unset, .unset, .unset, .unset, .unset, .unset] [(.int ((p0 &&& (1073741823 : Int32)) + (1 : Int32))), (.int (p1 &&& (2147483647 : Int32)))])) _
  refine own_step (fun _ => XS.irem X0.here hx rfl (hb hby at_12) rfl (by exact own_nz (own_m30 p0))) ?_
  show own_Goes p.tables e below (s₁.setTop (mkF m 13 #[.val (.int p0), .val (.int p1), .val (.int p2), .val (.int (p0 &&& (1073741823 : Int32))), .unset, .unset, .unset, .unset, .unset, .unset, .unset] [(.int ((p1 &&& (2147483647 : Int32)) - (p1 &&& (2147483647 : Int32)) / ((p0 &&& (1073741823 : Int32)) + (1 : Int32)) * ((p0 &&& (1073741823 : Int32)) + (1 : Int32))))])) _
  obtain ⟨z13, hz13⟩ : ∃ z : Int32, z = ((p1 &&& (2147483647 : Int32)) - (p1 &&& (2147483647 : Int32)) / ((p0 &&& (1073741823 : Int32)) + (1 : Int32)) * ((p0 &&& (1073741823 : Int32)) + (1 : Int32))) := ⟨_, rfl⟩
  refine own_step (fun _ => XS.istore X0.here hx rfl (hb hby at_13) rfl (l' := #[.val (.int p0), .val (.int p1), .val (.int p2), .val (.int (p0 &&& (1073741823 : Int32))), .val (.int z13), .unset, .unset, .unset, .unset, .unset, .unset]) (by subst hz13; rfl)) ?_
  show own_Goes p.tables e below (s₁.setTop (mkF m 15 #[.val (.int p0), .val (.int p1), .val (.int p2), .val (.int (p0 &&& (1073741823 : Int32))), .val (.int z13), .unset, .unset, .unset, .unset, .unset, .unset] [])) _
  refine own_step (fun _ => XS.iloadN X0.here hx rfl (hb hby at_15) rfl) ?_
  show own_Goes p.tables e below (s₁.setTop (mkF m 16 #[.val (.int p0), .val (.int p1), .val (.int p2), .val (.int (p0 &&& (1073741823 : Int32))), .val (.int z13), .unset, .unset, .unset, .unset, .unset, .unset] [(.int p2)])) _
  refine own_step (X0.ldcInt hx hown (mvT hZ (hw _ (List.mem_of_getElem? (i := 1) rfl))) (g := (mkF m 16 #[.val (.int p0), .val (.int p1), .val (.int p2), .val (.int (p0 &&& (1073741823 : Int32))), .val (.int z13), .unset, .unset, .unset, .unset, .unset, .unset] [(.int p2)])) rfl (hb hby at_16)) ?_
  show own_Goes p.tables e below (s₁.setTop (mkF m 18 #[.val (.int p0), .val (.int p1), .val (.int p2), .val (.int (p0 &&& (1073741823 : Int32))), .val (.int z13), .unset, .unset, .unset, .unset, .unset, .unset] [(.int (2147483647 : Int32)), (.int p2)])) _
  refine own_step (fun _ => XS.iand X0.here hx rfl (hb hby at_18) rfl) ?_
  show own_Goes p.tables e below (s₁.setTop (mkF m 19 #[.val (.int p0), .val (.int p1), .val (.int p2), .val (.int (p0 &&& (1073741823 : Int32))), .val (.int z13), .unset, .unset, .unset, .unset, .unset, .unset] [(.int (p2 &&& (2147483647 : Int32)))])) _
  refine own_step (fun _ => XS.iload X0.here hx rfl (hb hby at_19) rfl) ?_
  show own_Goes p.tables e below (s₁.setTop (mkF m 21 #[.val (.int p0), .val (.int p1), .val (.int p2), .val (.int (p0 &&& (1073741823 : Int32))), .val (.int z13), .unset, .unset, .unset, .unset, .unset, .unset] [(.int z13), (.int (p2 &&& (2147483647 : Int32)))])) _
  refine own_step (fun _ => XS.iconst X0.here hx rfl (hb hby at_21)) ?_
  show own_Goes p.tables e below (s₁.setTop (mkF m 22 #[.val (.int p0), .val (.int p1), .val (.int p2), .val (.int (p0 &&& (1073741823 : Int32))), .val (.int z13), .unset, .unset, .unset, .unset, .unset, .unset] [(.int (1 : Int32)), (.int z13), (.int (p2 &&& (2147483647 : Int32)))])) _
  refine own_step (fun _ => XS.iadd X0.here hx rfl (hb hby at_22) rfl) ?_
  show own_Goes p.tables e below (s₁.setTop (mkF m 23 #[.val (.int p0), .val (.int p1), .val (.int p2), .val (.int (p0 &&& (1073741823 : Int32))), .val (.int z13), .unset, .unset, .unset, .unset, .unset, .unset] [(.int (z13 + (1 : Int32))), (.int (p2 &&& (2147483647 : Int32)))])) _
  refine own_step (fun _ => XS.irem X0.here hx rfl (hb hby at_23) rfl (by subst hz13; exact own_nz (own_lt (own_part (own_m30 p0) p1) (own_m30 p0)))) ?_
  show own_Goes p.tables e below (s₁.setTop (mkF m 24 #[.val (.int p0), .val (.int p1), .val (.int p2), .val (.int (p0 &&& (1073741823 : Int32))), .val (.int z13), .unset, .unset, .unset, .unset, .unset, .unset] [(.int ((p2 &&& (2147483647 : Int32)) - (p2 &&& (2147483647 : Int32)) / (z13 + (1 : Int32)) * (z13 + (1 : Int32))))])) _
  obtain ⟨z24, hz24⟩ : ∃ z : Int32, z = ((p2 &&& (2147483647 : Int32)) - (p2 &&& (2147483647 : Int32)) / (z13 + (1 : Int32)) * (z13 + (1 : Int32))) := ⟨_, rfl⟩
  refine own_step (fun _ => XS.istore X0.here hx rfl (hb hby at_24) rfl (l' := #[.val (.int p0), .val (.int p1), .val (.int p2), .val (.int (p0 &&& (1073741823 : Int32))), .val (.int z13), .val (.int z24), .unset, .unset, .unset, .unset, .unset]) (by subst hz24; rfl)) ?_
  show own_Goes p.tables e below (s₁.setTop (mkF m 26 #[.val (.int p0), .val (.int p1), .val (.int p2), .val (.int (p0 &&& (1073741823 : Int32))), .val (.int z13), .val (.int z24), .unset, .unset, .unset, .unset, .unset] [])) _
  refine own_step (fun _ => XS.iloadN X0.here hx rfl (hb hby at_26) rfl) ?_
  show own_Goes p.tables e below (s₁.setTop (mkF m 27 #[.val (.int p0), .val (.int p1), .val (.int p2), .val (.int (p0 &&& (1073741823 : Int32))), .val (.int z13), .val (.int z24), .unset, .unset, .unset, .unset, .unset] [(.int (p0 &&& (1073741823 : Int32)))])) _
  refine own_step (fun _ => XS.iload X0.here hx rfl (hb hby at_27) rfl) ?_
  show own_Goes p.tables e below (s₁.setTop (mkF m 29 #[.val (.int p0), .val (.int p1), .val (.int p2), .val (.int (p0 &&& (1073741823 : Int32))), .val (.int z13), .val (.int z24), .unset, .unset, .unset, .unset, .unset] [(.int z13), (.int (p0 &&& (1073741823 : Int32)))])) _
  refine own_step (fun _ => XS.iload X0.here hx rfl (hb hby at_29) rfl) ?_
  show own_Goes p.tables e below (s₁.setTop (mkF m 31 #[.val (.int p0), .val (.int p1), .val (.int p2), .val (.int (p0 &&& (1073741823 : Int32))), .val (.int z13), .val (.int z24), .unset, .unset, .unset, .unset, .unset] [(.int z24), (.int z13), (.int (p0 &&& (1073741823 : Int32)))])) _
  refine own_step (fun _ => XS.isub X0.here hx rfl (hb hby at_31) rfl) ?_
  show own_Goes p.tables e below (s₁.setTop (mkF m 32 #[.val (.int p0), .val (.int p1), .val (.int p2), .val (.int (p0 &&& (1073741823 : Int32))), .val (.int z13), .val (.int z24), .unset, .unset, .unset, .unset, .unset] [(.int (z13 - z24)), (.int (p0 &&& (1073741823 : Int32)))])) _
  refine own_step (fun _ => XS.isub X0.here hx rfl (hb hby at_32) rfl) ?_
  show own_Goes p.tables e below (s₁.setTop (mkF m 33 #[.val (.int p0), .val (.int p1), .val (.int p2), .val (.int (p0 &&& (1073741823 : Int32))), .val (.int z13), .val (.int z24), .unset, .unset, .unset, .unset, .unset] [(.int ((p0 &&& (1073741823 : Int32)) - (z13 - z24)))])) _
  obtain ⟨z33, hz33⟩ : ∃ z : Int32, z = ((p0 &&& (1073741823 : Int32)) - (z13 - z24)) := ⟨_, rfl⟩
  refine own_step (fun _ => XS.istore X0.here hx rfl (hb hby at_33) rfl (l' := #[.val (.int p0), .val (.int p1), .val (.int p2), .val (.int (p0 &&& (1073741823 : Int32))), .val (.int z13), .val (.int z24), .val (.int z33), .unset, .unset, .unset, .unset]) (by subst hz33; rfl)) ?_
  show own_Goes p.tables e below (s₁.setTop (mkF m 35 #[.val (.int p0), .val (.int p1), .val (.int p2), .val (.int (p0 &&& (1073741823 : Int32))), .val (.int z13), .val (.int z24), .val (.int z33), .unset, .unset, .unset, .unset] [])) _
  obtain ⟨T1, h1, X1, e1, E1, A1, D1, -, st1⟩ := newO X0 hx hZ hown (hw _ (List.mem_of_getElem? (i := 2) rfl)) (hw _ (List.mem_of_getElem? (i := 3) rfl)) (hw _ (List.mem_of_getElem? (i := 4) rfl)) e0 (g := (mkF m 35 #[.val (.int p0), .val (.int p1), .val (.int p2), .val (.int (p0 &&& (1073741823 : Int32))), .val (.int z13), .val (.int z24), .val (.int z33), .unset, .unset, .unset, .unset] [])) rfl (hb hby at_35) (by decide) (by decide)
  obtain ⟨b35, g1⟩ : ∃ z, z = h0.size := ⟨_, rfl⟩
  rw [← g1] at A1 D1 st1
  have g_b35 : n0 ≤ b35 := Nat.le_trans Z0 (Nat.le_of_eq g1.symm)
  have sz_b35 : h0.size ≤ b35 := Nat.le_trans (Keep.refl h0 []).1 (Nat.le_of_eq g1.symm)
  have K1 : Keep h0 h1 [] := (Keep.refl h0 []).ext E1
  have Z1 : n0 ≤ h1.size := Nat.le_trans Z0 E1.1
  have F_most_b35 : Fld Z h1 b35 "com/example/sandpiper/sandpiper/broker/ReadBudget" "most" "J" (.long (0 : Int64)) := D1 (Or.inr (hw _ (List.mem_of_getElem? (i := 12) rfl))) (ty := .long) (by decide)
  have F_mostGrown_b35 : Fld Z h1 b35 "com/example/sandpiper/sandpiper/broker/ReadBudget" "mostGrown" "J" (.long (0 : Int64)) := D1 (Or.inr (hw _ (List.mem_of_getElem? (i := 15) rfl))) (ty := .long) (by decide)
  have F_kept_b35 : Fld Z h1 b35 "com/example/sandpiper/sandpiper/broker/ReadBudget" "kept" "J" (.long (0 : Int64)) := D1 (Or.inl (hw _ (List.mem_of_getElem? (i := 26) rfl))) (ty := .long) (by decide)
  refine own_step (st1) ?_
  show own_Goes p.tables e below (T1.setTop (mkF m 38 #[.val (.int p0), .val (.int p1), .val (.int p2), .val (.int (p0 &&& (1073741823 : Int32))), .val (.int z13), .val (.int z24), .val (.int z33), .unset, .unset, .unset, .unset] [(.ref b35)])) _
  refine own_step (fun _ => XS.dup X1.here hx rfl (hb hby at_38) rfl rfl) ?_
  show own_Goes p.tables e below (T1.setTop (mkF m 39 #[.val (.int p0), .val (.int p1), .val (.int p2), .val (.int (p0 &&& (1073741823 : Int32))), .val (.int z13), .val (.int z24), .val (.int z33), .unset, .unset, .unset, .unset] [(.ref b35), (.ref b35)])) _
  refine own_step (fun _ => XS.iloadN X1.here hx rfl (hb hby at_39) rfl) ?_
  show own_Goes p.tables e below (T1.setTop (mkF m 40 #[.val (.int p0), .val (.int p1), .val (.int p2), .val (.int (p0 &&& (1073741823 : Int32))), .val (.int z13), .val (.int z24), .val (.int z33), .unset, .unset, .unset, .unset] [(.int (p0 &&& (1073741823 : Int32))), (.ref b35), (.ref b35)])) _
  refine own_step (fun _ => XS.i2l X1.here hx rfl (hb hby at_40) rfl) ?_
  show own_Goes p.tables e below (T1.setTop (mkF m 41 #[.val (.int p0), .val (.int p1), .val (.int p2), .val (.int (p0 &&& (1073741823 : Int32))), .val (.int z13), .val (.int z24), .val (.int z33), .unset, .unset, .unset, .unset] [(.long ((p0 &&& (1073741823 : Int32)).toInt64)), (.ref b35), (.ref b35)])) _
  obtain ⟨_, _, ⟨T2, L2, k2, n2⟩, -, X2, ⟨Lc2, hQ2, l2, y2, z2⟩, st2⟩ := X1.specialBack hx (y := (⟨"com/example/sandpiper/sandpiper/broker/ReadBudget", "<init>", "(J)V"⟩ : MethodName)) rfl hown (mvT hZ (hw _ (List.mem_of_getElem? (i := 5) rfl))) (mvT hZ (hw _ (List.mem_of_getElem? (i := 6) rfl))) (mvT hZ (hw _ (List.mem_of_getElem? (i := 7) rfl))) (by decide) (backOf (W := 1) (rm1 l Z a0 hw [] b35 ((p0 &&& (1073741823 : Int32)).toInt64) (0 : Int64) (0 : Int64) (0 : Int64) h1 n0 Z1 A1 F_most_b35 F_mostGrown_b35 F_kept_b35 g_b35) hZ (hw _ (List.mem_of_getElem? (i := 7) rfl)) (hw _ (List.mem_of_getElem? (i := 4) rfl)) (by decide) (by decide)) (g := (mkF m 41 #[.val (.int p0), .val (.int p1), .val (.int p2), .val (.int (p0 &&& (1073741823 : Int32))), .val (.int z13), .val (.int z24), .val (.int z33), .unset, .unset, .unset, .unset] [(.long ((p0 &&& (1073741823 : Int32)).toInt64)), (.ref b35), (.ref b35)])) rfl (by rw [hml]; rfl) (Steps.refl _) (a := b35) (argsL := [(.long ((p0 &&& (1073741823 : Int32)).toInt64))]) (rest := [(.ref b35)]) (lenOf pd_0_0 rfl) rfl (by show 2 * 0 + _ ≤ _; exact Nat.le_of_eq rfl) (hb hby at_41) (fun _ _ => ⟨rfl, e1, (by decide : (0 + 1) + 0 ≤ _), (by decide : (0 + 3) + 0 ≤ _)⟩)
  dsimp only [Pt.U, Pt.locs, Pt.cells, Pt.slots] at X2 l2 y2 z2 st2 hQ2
  subst y2 z2
  obtain ⟨rfl, Nq2, Kq2, E_b35_2, F_most_b35_2, F_kept_b35_2⟩ := hQ2
  have N2 : Fr n0 L2 := by rw [l2]; exact Fr.app N0 Nq2
  have Z2 : n0 ≤ T2.heap.size := Nat.le_trans Z1 Kq2.1
  have K2 : Keep h0 T2.heap [] := K1.trans Kq2 (allS (Or.inr sz_b35) all0)
  refine own_step (fun _ k => st2.trans k) ?_
  show own_Goes p.tables e below (T2.setTop (mkF m 44 #[.val (.int p0), .val (.int p1), .val (.int p2), .val (.int (p0 &&& (1073741823 : Int32))), .val (.int z13), .val (.int z24), .val (.int z33), .unset, .unset, .unset, .unset] [(.ref b35)])) _
  refine own_step (fun _ => XS.astore X2.here hx rfl (hb hby at_44) rfl rfl (l' := #[.val (.int p0), .val (.int p1), .val (.int p2), .val (.int (p0 &&& (1073741823 : Int32))), .val (.int z13), .val (.int z24), .val (.int z33), .val (.ref b35), .unset, .unset, .unset]) rfl) ?_
  show own_Goes p.tables e below (T2.setTop (mkF m 46 #[.val (.int p0), .val (.int p1), .val (.int p2), .val (.int (p0 &&& (1073741823 : Int32))), .val (.int z13), .val (.int z24), .val (.int z33), .val (.ref b35), .unset, .unset, .unset] [])) _
  refine own_step (fun _ => XS.aload X2.here hx rfl (hb hby at_46) rfl rfl) ?_
  show own_Goes p.tables e below (T2.setTop (mkF m 48 #[.val (.int p0), .val (.int p1), .val (.int p2), .val (.int (p0 &&& (1073741823 : Int32))), .val (.int z13), .val (.int z24), .val (.int z33), .val (.ref b35), .unset, .unset, .unset] [(.ref b35)])) _
  refine own_step (fun _ => XS.iload X2.here hx rfl (hb hby at_48) rfl) ?_
  show own_Goes p.tables e below (T2.setTop (mkF m 50 #[.val (.int p0), .val (.int p1), .val (.int p2), .val (.int (p0 &&& (1073741823 : Int32))), .val (.int z13), .val (.int z24), .val (.int z33), .val (.ref b35), .unset, .unset, .unset] [(.int z13), (.ref b35)])) _
  obtain ⟨cq3, kq3, q3a, q3b, q3c⟩ := isOf hZ rfl E_b35_2
  obtain ⟨_, _, ⟨T3, L3, k3, n3⟩, -, X3, ⟨Lc3, hQ3, l3, y3, z3⟩, st3⟩ := X2.virtualBack hx (y := (⟨"com/example/sandpiper/sandpiper/broker/ReadBudget", "takeFirst", "(I)Z"⟩ : MethodName)) (z := (⟨"com/example/sandpiper/sandpiper/broker/ReadBudget", "takeFirst", "(I)Z"⟩ : MethodName)) hown (mvT hZ (hw _ (List.mem_of_getElem? (i := 16) rfl))) (mvT hZ (hw _ (List.mem_of_getElem? (i := 17) rfl))) (notFace_of_selects (args := #[]) (mvT hZ (hw _ (List.mem_of_getElem? (i := 19) rfl)))) (mvT hZ (hw _ (List.mem_of_getElem? (i := 19) rfl))) (mvT hZ (hw _ (List.mem_of_getElem? (i := 18) rfl))) (by decide) (backOf (W := 0) (rm3 l Z a0 hw [] b35 z13 ((p0 &&& (1073741823 : Int32)).toInt64) (0 : Int64) T2.heap n0 Z2 E_b35_2 F_most_b35_2 F_kept_b35_2 g_b35) hZ (hw _ (List.mem_of_getElem? (i := 20) rfl)) (hw _ (List.mem_of_getElem? (i := 4) rfl)) (by decide) (by decide)) q3a q3c (g := (mkF m 50 #[.val (.int p0), .val (.int p1), .val (.int p2), .val (.int (p0 &&& (1073741823 : Int32))), .val (.int z13), .val (.int z24), .val (.int z33), .val (.ref b35), .unset, .unset, .unset] [(.int z13), (.ref b35)])) rfl (by rw [hml]; rfl) (Steps.refl _) (argsL := [(.int z13)]) (rest := []) (lenOf pd_0_1 rfl) rfl (by show 2 * 0 + _ ≤ _; exact Nat.le_of_eq rfl) (hb hby at_50) (fun _ _ => ⟨rfl, rfl, (by decide : ((0 + 1) + 0) + 0 ≤ _), (by decide : ((0 + 3) + 0) + 0 ≤ _)⟩)
  dsimp only [Pt.U, Pt.locs, Pt.cells, Pt.slots] at X3 l3 y3 z3 st3 hQ3
  subst y3 z3
  obtain ⟨rfl, Nq3, Kq3, E_b35_3, F_most_b35_3, F_kept_b35_3⟩ := hQ3
  have N3 : Fr n0 L3 := by rw [l3]; exact Fr.app N2 Nq3
  have Z3 : n0 ≤ T3.heap.size := Nat.le_trans Z2 Kq3.1
  have K3 : Keep h0 T3.heap [] := K2.trans Kq3 (allS (Or.inr sz_b35) all0)
  refine own_step (fun _ k => st3.trans k) ?_
  show own_Goes p.tables e below (T3.setTop (mkF m 53 #[.val (.int p0), .val (.int p1), .val (.int p2), .val (.int (p0 &&& (1073741823 : Int32))), .val (.int z13), .val (.int z24), .val (.int z33), .val (.ref b35), .unset, .unset, .unset] [(.int (own_f3 z13 ((p0 &&& (1073741823 : Int32)).toInt64) (0 : Int64)))])) _
  obtain ⟨z53, hz53⟩ : ∃ z : Int32, z = (own_f3 z13 ((p0 &&& (1073741823 : Int32)).toInt64) (0 : Int64)) := ⟨_, rfl⟩
  refine own_step (fun _ => XS.istore X3.here hx rfl (hb hby at_53) rfl (l' := #[.val (.int p0), .val (.int p1), .val (.int p2), .val (.int (p0 &&& (1073741823 : Int32))), .val (.int z13), .val (.int z24), .val (.int z33), .val (.ref b35), .val (.int z53), .unset, .unset]) (by subst hz53; rfl)) ?_
  show own_Goes p.tables e below (T3.setTop (mkF m 55 #[.val (.int p0), .val (.int p1), .val (.int p2), .val (.int (p0 &&& (1073741823 : Int32))), .val (.int z13), .val (.int z24), .val (.int z33), .val (.ref b35), .val (.int z53), .unset, .unset] [])) _
  refine own_step (fun _ => XS.aload X3.here hx rfl (hb hby at_55) rfl rfl) ?_
  show own_Goes p.tables e below (T3.setTop (mkF m 57 #[.val (.int p0), .val (.int p1), .val (.int p2), .val (.int (p0 &&& (1073741823 : Int32))), .val (.int z13), .val (.int z24), .val (.int z33), .val (.ref b35), .val (.int z53), .unset, .unset] [(.ref b35)])) _
  refine own_step (fun _ => XS.iload X3.here hx rfl (hb hby at_57) rfl) ?_
  show own_Goes p.tables e below (T3.setTop (mkF m 59 #[.val (.int p0), .val (.int p1), .val (.int p2), .val (.int (p0 &&& (1073741823 : Int32))), .val (.int z13), .val (.int z24), .val (.int z33), .val (.ref b35), .val (.int z53), .unset, .unset] [(.int z24), (.ref b35)])) _
  obtain ⟨cq4, kq4, q4a, q4b, q4c⟩ := isOf hZ rfl E_b35_3
  obtain ⟨_, _, ⟨T4, L4, k4, n4⟩, -, X4, ⟨Lc4, hQ4, l4, y4, z4⟩, st4⟩ := X3.virtualBack hx (y := (⟨"com/example/sandpiper/sandpiper/broker/ReadBudget", "giveBack", "(I)V"⟩ : MethodName)) (z := (⟨"com/example/sandpiper/sandpiper/broker/ReadBudget", "giveBack", "(I)V"⟩ : MethodName)) hown (mvT hZ (hw _ (List.mem_of_getElem? (i := 27) rfl))) (mvT hZ (hw _ (List.mem_of_getElem? (i := 28) rfl))) (notFace_of_selects (args := #[]) (mvT hZ (hw _ (List.mem_of_getElem? (i := 30) rfl)))) (mvT hZ (hw _ (List.mem_of_getElem? (i := 30) rfl))) (mvT hZ (hw _ (List.mem_of_getElem? (i := 29) rfl))) (by decide) (backOf (W := 0) (rm5 l Z a0 hw [] b35 z24 ((p0 &&& (1073741823 : Int32)).toInt64) (if ((p0 &&& (1073741823 : Int32)).toInt64) < ((0 : Int64) + (z13.toInt64)) then (0 : Int64) else ((0 : Int64) + (z13.toInt64))) T3.heap n0 Z3 E_b35_3 F_most_b35_3 F_kept_b35_3 g_b35) hZ (hw _ (List.mem_of_getElem? (i := 31) rfl)) (hw _ (List.mem_of_getElem? (i := 4) rfl)) (by decide) (by decide)) q4a q4c (g := (mkF m 59 #[.val (.int p0), .val (.int p1), .val (.int p2), .val (.int (p0 &&& (1073741823 : Int32))), .val (.int z13), .val (.int z24), .val (.int z33), .val (.ref b35), .val (.int z53), .unset, .unset] [(.int z24), (.ref b35)])) rfl (by rw [hml]; rfl) (Steps.refl _) (argsL := [(.int z24)]) (rest := []) (lenOf pd_0_2 rfl) rfl (by show 2 * 0 + _ ≤ _; exact Nat.le_of_eq rfl) (hb hby at_59) (fun _ _ => ⟨rfl, rfl, (by decide : (((0 + 1) + 0) + 0) + 0 ≤ _), (by decide : (((0 + 3) + 0) + 0) + 0 ≤ _)⟩)
  dsimp only [Pt.U, Pt.locs, Pt.cells, Pt.slots] at X4 l4 y4 z4 st4 hQ4
  subst y4 z4
  obtain ⟨rfl, Nq4, Kq4, E_b35_4, F_most_b35_4, F_kept_b35_4⟩ := hQ4
  have N4 : Fr n0 L4 := by rw [l4]; exact Fr.app N3 Nq4
  have Z4 : n0 ≤ T4.heap.size := Nat.le_trans Z3 Kq4.1
  have K4 : Keep h0 T4.heap [] := K3.trans Kq4 (allS (Or.inr sz_b35) all0)
  refine own_step (fun _ k => st4.trans k) ?_
  show own_Goes p.tables e below (T4.setTop (mkF m 62 #[.val (.int p0), .val (.int p1), .val (.int p2), .val (.int (p0 &&& (1073741823 : Int32))), .val (.int z13), .val (.int z24), .val (.int z33), .val (.ref b35), .val (.int z53), .unset, .unset] [])) _
  refine own_step (fun _ => XS.aload X4.here hx rfl (hb hby at_62) rfl rfl) ?_
  show own_Goes p.tables e below (T4.setTop (mkF m 64 #[.val (.int p0), .val (.int p1), .val (.int p2), .val (.int (p0 &&& (1073741823 : Int32))), .val (.int z13), .val (.int z24), .val (.int z33), .val (.ref b35), .val (.int z53), .unset, .unset] [(.ref b35)])) _
  refine own_step (fun _ => XS.iload X4.here hx rfl (hb hby at_64) rfl) ?_
  show own_Goes p.tables e below (T4.setTop (mkF m 66 #[.val (.int p0), .val (.int p1), .val (.int p2), .val (.int (p0 &&& (1073741823 : Int32))), .val (.int z13), .val (.int z24), .val (.int z33), .val (.ref b35), .val (.int z53), .unset, .unset] [(.int z33), (.ref b35)])) _
  obtain ⟨cq5, kq5, q5a, q5b, q5c⟩ := isOf hZ rfl E_b35_4
  obtain ⟨_, _, ⟨T5, L5, k5, n5⟩, -, X5, ⟨Lc5, hQ5, l5, y5, z5⟩, st5⟩ := X4.virtualBack hx (y := (⟨"com/example/sandpiper/sandpiper/broker/ReadBudget", "takeFirst", "(I)Z"⟩ : MethodName)) (z := (⟨"com/example/sandpiper/sandpiper/broker/ReadBudget", "takeFirst", "(I)Z"⟩ : MethodName)) hown (mvT hZ (hw _ (List.mem_of_getElem? (i := 16) rfl))) (mvT hZ (hw _ (List.mem_of_getElem? (i := 17) rfl))) (notFace_of_selects (args := #[]) (mvT hZ (hw _ (List.mem_of_getElem? (i := 19) rfl)))) (mvT hZ (hw _ (List.mem_of_getElem? (i := 19) rfl))) (mvT hZ (hw _ (List.mem_of_getElem? (i := 18) rfl))) (by decide) (backOf (W := 0) (rm3 l Z a0 hw [] b35 z33 ((p0 &&& (1073741823 : Int32)).toInt64) ((if ((p0 &&& (1073741823 : Int32)).toInt64) < ((0 : Int64) + (z13.toInt64)) then (0 : Int64) else ((0 : Int64) + (z13.toInt64))) - (z24.toInt64)) T4.heap n0 Z4 E_b35_4 F_most_b35_4 F_kept_b35_4 g_b35) hZ (hw _ (List.mem_of_getElem? (i := 20) rfl)) (hw _ (List.mem_of_getElem? (i := 4) rfl)) (by decide) (by decide)) q5a q5c (g := (mkF m 66 #[.val (.int p0), .val (.int p1), .val (.int p2), .val (.int (p0 &&& (1073741823 : Int32))), .val (.int z13), .val (.int z24), .val (.int z33), .val (.ref b35), .val (.int z53), .unset, .unset] [(.int z33), (.ref b35)])) rfl (by rw [hml]; rfl) (Steps.refl _) (argsL := [(.int z33)]) (rest := []) (lenOf pd_0_1 rfl) rfl (by show 2 * 0 + _ ≤ _; exact Nat.le_of_eq rfl) (hb hby at_66) (fun _ _ => ⟨rfl, rfl, (by decide : ((((0 + 1) + 0) + 0) + 0) + 0 ≤ _), (by decide : ((((0 + 3) + 0) + 0) + 0) + 0 ≤ _)⟩)
  dsimp only [Pt.U, Pt.locs, Pt.cells, Pt.slots] at X5 l5 y5 z5 st5 hQ5
  subst y5 z5
  obtain ⟨rfl, Nq5, Kq5, E_b35_5, F_most_b35_5, F_kept_b35_5⟩ := hQ5
  have N5 : Fr n0 L5 := by rw [l5]; exact Fr.app N4 Nq5
  have Z5 : n0 ≤ T5.heap.size := Nat.le_trans Z4 Kq5.1
  have K5 : Keep h0 T5.heap [] := K4.trans Kq5 (allS (Or.inr sz_b35) all0)
  refine own_step (fun _ k => st5.trans k) ?_
  show own_Goes p.tables e below (T5.setTop (mkF m 69 #[.val (.int p0), .val (.int p1), .val (.int p2), .val (.int (p0 &&& (1073741823 : Int32))), .val (.int z13), .val (.int z24), .val (.int z33), .val (.ref b35), .val (.int z53), .unset, .unset] [(.int (own_f3 z33 ((p0 &&& (1073741823 : Int32)).toInt64) ((if ((p0 &&& (1073741823 : Int32)).toInt64) < ((0 : Int64) + (z13.toInt64)) then (0 : Int64) else ((0 : Int64) + (z13.toInt64))) - (z24.toInt64))))])) _
  obtain ⟨z69, hz69⟩ : ∃ z : Int32, z = (own_f3 z33 ((p0 &&& (1073741823 : Int32)).toInt64) ((if ((p0 &&& (1073741823 : Int32)).toInt64) < ((0 : Int64) + (z13.toInt64)) then (0 : Int64) else ((0 : Int64) + (z13.toInt64))) - (z24.toInt64))) := ⟨_, rfl⟩
  refine own_step (fun _ => XS.istore X5.here hx rfl (hb hby at_69) rfl (l' := #[.val (.int p0), .val (.int p1), .val (.int p2), .val (.int (p0 &&& (1073741823 : Int32))), .val (.int z13), .val (.int z24), .val (.int z33), .val (.ref b35), .val (.int z53), .val (.int z69), .unset]) (by subst hz69; rfl)) ?_
  show own_Goes p.tables e below (T5.setTop (mkF m 71 #[.val (.int p0), .val (.int p1), .val (.int p2), .val (.int (p0 &&& (1073741823 : Int32))), .val (.int z13), .val (.int z24), .val (.int z33), .val (.ref b35), .val (.int z53), .val (.int z69), .unset] [])) _
  refine own_step (fun _ => XS.aload X5.here hx rfl (hb hby at_71) rfl rfl) ?_
  show own_Goes p.tables e below (T5.setTop (mkF m 73 #[.val (.int p0), .val (.int p1), .val (.int p2), .val (.int (p0 &&& (1073741823 : Int32))), .val (.int z13), .val (.int z24), .val (.int z33), .val (.ref b35), .val (.int z53), .val (.int z69), .unset] [(.ref b35)])) _
  refine own_step (fun _ => XS.iconst X5.here hx rfl (hb hby at_73)) ?_
  show own_Goes p.tables e below (T5.setTop (mkF m 74 #[.val (.int p0), .val (.int p1), .val (.int p2), .val (.int (p0 &&& (1073741823 : Int32))), .val (.int z13), .val (.int z24), .val (.int z33), .val (.ref b35), .val (.int z53), .val (.int z69), .unset] [(.int (1 : Int32)), (.ref b35)])) _
  obtain ⟨cq6, kq6, q6a, q6b, q6c⟩ := isOf hZ rfl E_b35_5
  obtain ⟨_, _, ⟨T6, L6, k6, n6⟩, -, X6, ⟨Lc6, hQ6, l6, y6, z6⟩, st6⟩ := X5.virtualBack hx (y := (⟨"com/example/sandpiper/sandpiper/broker/ReadBudget", "takeFirst", "(I)Z"⟩ : MethodName)) (z := (⟨"com/example/sandpiper/sandpiper/broker/ReadBudget", "takeFirst", "(I)Z"⟩ : MethodName)) hown (mvT hZ (hw _ (List.mem_of_getElem? (i := 16) rfl))) (mvT hZ (hw _ (List.mem_of_getElem? (i := 17) rfl))) (notFace_of_selects (args := #[]) (mvT hZ (hw _ (List.mem_of_getElem? (i := 19) rfl)))) (mvT hZ (hw _ (List.mem_of_getElem? (i := 19) rfl))) (mvT hZ (hw _ (List.mem_of_getElem? (i := 18) rfl))) (by decide) (backOf (W := 0) (rm3 l Z a0 hw [] b35 (1 : Int32) ((p0 &&& (1073741823 : Int32)).toInt64) (if ((p0 &&& (1073741823 : Int32)).toInt64) < (((if ((p0 &&& (1073741823 : Int32)).toInt64) < ((0 : Int64) + (z13.toInt64)) then (0 : Int64) else ((0 : Int64) + (z13.toInt64))) - (z24.toInt64)) + (z33.toInt64)) then ((if ((p0 &&& (1073741823 : Int32)).toInt64) < ((0 : Int64) + (z13.toInt64)) then (0 : Int64) else ((0 : Int64) + (z13.toInt64))) - (z24.toInt64)) else (((if ((p0 &&& (1073741823 : Int32)).toInt64) < ((0 : Int64) + (z13.toInt64)) then (0 : Int64) else ((0 : Int64) + (z13.toInt64))) - (z24.toInt64)) + (z33.toInt64))) T5.heap n0 Z5 E_b35_5 F_most_b35_5 F_kept_b35_5 g_b35) hZ (hw _ (List.mem_of_getElem? (i := 20) rfl)) (hw _ (List.mem_of_getElem? (i := 4) rfl)) (by decide) (by decide)) q6a q6c (g := (mkF m 74 #[.val (.int p0), .val (.int p1), .val (.int p2), .val (.int (p0 &&& (1073741823 : Int32))), .val (.int z13), .val (.int z24), .val (.int z33), .val (.ref b35), .val (.int z53), .val (.int z69), .unset] [(.int (1 : Int32)), (.ref b35)])) rfl (by rw [hml]; rfl) (Steps.refl _) (argsL := [(.int (1 : Int32))]) (rest := []) (lenOf pd_0_1 rfl) rfl (by show 2 * 0 + _ ≤ _; exact Nat.le_of_eq rfl) (hb hby at_74) (fun _ _ => ⟨rfl, rfl, (by decide : (((((0 + 1) + 0) + 0) + 0) + 0) + 0 ≤ _), (by decide : (((((0 + 3) + 0) + 0) + 0) + 0) + 0 ≤ _)⟩)
  dsimp only [Pt.U, Pt.locs, Pt.cells, Pt.slots] at X6 l6 y6 z6 st6 hQ6
  subst y6 z6
  obtain ⟨rfl, Nq6, Kq6, E_b35_6, F_most_b35_6, F_kept_b35_6⟩ := hQ6
  have N6 : Fr n0 L6 := by rw [l6]; exact Fr.app N5 Nq6
  have Z6 : n0 ≤ T6.heap.size := Nat.le_trans Z5 Kq6.1
  have K6 : Keep h0 T6.heap [] := K5.trans Kq6 (allS (Or.inr sz_b35) all0)
  refine own_step (fun _ k => st6.trans k) ?_
  show own_Goes p.tables e below (T6.setTop (mkF m 77 #[.val (.int p0), .val (.int p1), .val (.int p2), .val (.int (p0 &&& (1073741823 : Int32))), .val (.int z13), .val (.int z24), .val (.int z33), .val (.ref b35), .val (.int z53), .val (.int z69), .unset] [(.int (own_f3 (1 : Int32) ((p0 &&& (1073741823 : Int32)).toInt64) (if ((p0 &&& (1073741823 : Int32)).toInt64) < (((if ((p0 &&& (1073741823 : Int32)).toInt64) < ((0 : Int64) + (z13.toInt64)) then (0 : Int64) else ((0 : Int64) + (z13.toInt64))) - (z24.toInt64)) + (z33.toInt64)) then ((if ((p0 &&& (1073741823 : Int32)).toInt64) < ((0 : Int64) + (z13.toInt64)) then (0 : Int64) else ((0 : Int64) + (z13.toInt64))) - (z24.toInt64)) else (((if ((p0 &&& (1073741823 : Int32)).toInt64) < ((0 : Int64) + (z13.toInt64)) then (0 : Int64) else ((0 : Int64) + (z13.toInt64))) - (z24.toInt64)) + (z33.toInt64)))))])) _
  obtain ⟨z77, hz77⟩ : ∃ z : Int32, z = (own_f3 (1 : Int32) ((p0 &&& (1073741823 : Int32)).toInt64) (if ((p0 &&& (1073741823 : Int32)).toInt64) < (((if ((p0 &&& (1073741823 : Int32)).toInt64) < ((0 : Int64) + (z13.toInt64)) then (0 : Int64) else ((0 : Int64) + (z13.toInt64))) - (z24.toInt64)) + (z33.toInt64)) then ((if ((p0 &&& (1073741823 : Int32)).toInt64) < ((0 : Int64) + (z13.toInt64)) then (0 : Int64) else ((0 : Int64) + (z13.toInt64))) - (z24.toInt64)) else (((if ((p0 &&& (1073741823 : Int32)).toInt64) < ((0 : Int64) + (z13.toInt64)) then (0 : Int64) else ((0 : Int64) + (z13.toInt64))) - (z24.toInt64)) + (z33.toInt64)))) := ⟨_, rfl⟩
  refine own_step (fun _ => XS.istore X6.here hx rfl (hb hby at_77) rfl (l' := #[.val (.int p0), .val (.int p1), .val (.int p2), .val (.int (p0 &&& (1073741823 : Int32))), .val (.int z13), .val (.int z24), .val (.int z33), .val (.ref b35), .val (.int z53), .val (.int z69), .val (.int z77)]) (by subst hz77; rfl)) ?_
  show own_Goes p.tables e below (T6.setTop (mkF m 79 #[.val (.int p0), .val (.int p1), .val (.int p2), .val (.int (p0 &&& (1073741823 : Int32))), .val (.int z13), .val (.int z24), .val (.int z33), .val (.ref b35), .val (.int z53), .val (.int z69), .val (.int z77)] [])) _
  refine own_step (fun _ => XS.iload X6.here hx rfl (hb hby at_79) rfl) ?_
  show own_Goes p.tables e below (T6.setTop (mkF m 81 #[.val (.int p0), .val (.int p1), .val (.int p2), .val (.int (p0 &&& (1073741823 : Int32))), .val (.int z13), .val (.int z24), .val (.int z33), .val (.ref b35), .val (.int z53), .val (.int z69), .val (.int z77)] [(.int z53)])) _
  have J98 : ∀ (T_98 : State) (X_98 : Stand p l e room_1 s m #[(.int p0), (.int p1), (.int p2)] below meth c T_98 L6 ((((((0 + 1) + 0) + 0) + 0) + 0) + 0) ((((((0 + 3) + 0) + 0) + 0) + 0) + 0)) (e_98 : T_98.heap = T6.heap), own_Goes p.tables e below (T_98.setTop (mkF m 98 #[.val (.int p0), .val (.int p1), .val (.int p2), .val (.int (p0 &&& (1073741823 : Int32))), .val (.int z13), .val (.int z24), .val (.int z33), .val (.ref b35), .val (.int z53), .val (.int z69), .val (.int z77)] [])) (own_P s (own_Ql (some (.int (own_f0_98))) n0) 1 3) := by
    intro T_98 X_98 e_98
    refine own_step (fun _ => XS.iconst X_98.here hx rfl (hb hby at_98)) ?_
    show own_Goes p.tables e below (T_98.setTop (mkF m 99 #[.val (.int p0), .val (.int p1), .val (.int p2), .val (.int (p0 &&& (1073741823 : Int32))), .val (.int z13), .val (.int z24), .val (.int z33), .val (.ref b35), .val (.int z53), .val (.int z69), .val (.int z77)] [(.int (0 : Int32))])) _
    have hv : (own_f0_98) = (0 : Int32) := by exact rfl
    rw [hv]
    exact own_retN X_98 hx (t := .boolean) Bd.returns (by simp) (hb hby at_99) (BodyLoose.notSynchronized Bd) (w := (0 : Int32)) rfl ⟨rfl, N6⟩ (by decide) (by decide)
  by_cases hc81 : z53 = 0
  · refine own_step (fun _ => XS.ifYes X6.here hx rfl (pc0 := 81) (pc' := 98) rfl (hb hby at_81) rfl (Jvm.Free.XT.i0_eq_t hc81) (by decide) (by decide)) ?_
    show own_Goes p.tables e below (T6.setTop (mkF m 98 #[.val (.int p0), .val (.int p1), .val (.int p2), .val (.int (p0 &&& (1073741823 : Int32))), .val (.int z13), .val (.int z24), .val (.int z33), .val (.ref b35), .val (.int z53), .val (.int z69), .val (.int z77)] [])) _
    have hv : (own_f0 p0 p1 p2) = (own_f0_98) := by subst hz77; subst hz69; subst hz53; subst hz33; subst hz24; subst hz13; exact (if_pos hc81)
    rw [hv]
    exact J98 T6 X6 rfl
  · refine own_step (fun _ => XS.ifNo X6.here hx rfl (hb hby at_81) rfl (Jvm.Free.XT.i0_eq_f hc81)) ?_
    show own_Goes p.tables e below (T6.setTop (mkF m 84 #[.val (.int p0), .val (.int p1), .val (.int p2), .val (.int (p0 &&& (1073741823 : Int32))), .val (.int z13), .val (.int z24), .val (.int z33), .val (.ref b35), .val (.int z53), .val (.int z69), .val (.int z77)] [])) _
    refine own_step (fun _ => XS.iload X6.here hx rfl (hb hby at_84) rfl) ?_
    show own_Goes p.tables e below (T6.setTop (mkF m 86 #[.val (.int p0), .val (.int p1), .val (.int p2), .val (.int (p0 &&& (1073741823 : Int32))), .val (.int z13), .val (.int z24), .val (.int z33), .val (.ref b35), .val (.int z53), .val (.int z69), .val (.int z77)] [(.int z69)])) _
    by_cases hc86 : z69 = 0
    · refine own_step (fun _ => XS.ifYes X6.here hx rfl (pc0 := 86) (pc' := 98) rfl (hb hby at_86) rfl (Jvm.Free.XT.i0_eq_t hc86) (by decide) (by decide)) ?_
      show own_Goes p.tables e below (T6.setTop (mkF m 98 #[.val (.int p0), .val (.int p1), .val (.int p2), .val (.int (p0 &&& (1073741823 : Int32))), .val (.int z13), .val (.int z24), .val (.int z33), .val (.ref b35), .val (.int z53), .val (.int z69), .val (.int z77)] [])) _
      have hv : (own_f0 p0 p1 p2) = (own_f0_98) := by subst hz77; subst hz69; subst hz53; subst hz33; subst hz24; subst hz13; exact ((if_neg hc81)).trans (if_pos hc86)
      rw [hv]
      exact J98 T6 X6 rfl
    · refine own_step (fun _ => XS.ifNo X6.here hx rfl (hb hby at_86) rfl (Jvm.Free.XT.i0_eq_f hc86)) ?_
      show own_Goes p.tables e below (T6.setTop (mkF m 89 #[.val (.int p0), .val (.int p1), .val (.int p2), .val (.int (p0 &&& (1073741823 : Int32))), .val (.int z13), .val (.int z24), .val (.int z33), .val (.ref b35), .val (.int z53), .val (.int z69), .val (.int z77)] [])) _
      refine own_step (fun _ => XS.iload X6.here hx rfl (hb hby at_89) rfl) ?_
      show own_Goes p.tables e below (T6.setTop (mkF m 91 #[.val (.int p0), .val (.int p1), .val (.int p2), .val (.int (p0 &&& (1073741823 : Int32))), .val (.int z13), .val (.int z24), .val (.int z33), .val (.ref b35), .val (.int z53), .val (.int z69), .val (.int z77)] [(.int z77)])) _
      by_cases hc91 : z77 = 0
      · refine own_step (fun _ => XS.ifNo X6.here hx rfl (hb hby at_91) rfl (Jvm.Free.XT.i0_ne_f hc91)) ?_
        show own_Goes p.tables e below (T6.setTop (mkF m 94 #[.val (.int p0), .val (.int p1), .val (.int p2), .val (.int (p0 &&& (1073741823 : Int32))), .val (.int z13), .val (.int z24), .val (.int z33), .val (.ref b35), .val (.int z53), .val (.int z69), .val (.int z77)] [])) _
        refine own_step (fun _ => XS.iconst X6.here hx rfl (hb hby at_94)) ?_
        show own_Goes p.tables e below (T6.setTop (mkF m 95 #[.val (.int p0), .val (.int p1), .val (.int p2), .val (.int (p0 &&& (1073741823 : Int32))), .val (.int z13), .val (.int z24), .val (.int z33), .val (.ref b35), .val (.int z53), .val (.int z69), .val (.int z77)] [(.int (1 : Int32))])) _
        refine own_step (fun _ => XS.goto X6.here hx rfl (pc0 := 95) (pc' := 99) rfl (hb hby at_95) (by decide) (by decide)) ?_
        show own_Goes p.tables e below (T6.setTop (mkF m 99 #[.val (.int p0), .val (.int p1), .val (.int p2), .val (.int (p0 &&& (1073741823 : Int32))), .val (.int z13), .val (.int z24), .val (.int z33), .val (.ref b35), .val (.int z53), .val (.int z69), .val (.int z77)] [(.int (1 : Int32))])) _
        have hv : (own_f0 p0 p1 p2) = (1 : Int32) := by subst hz77; subst hz69; subst hz53; subst hz33; subst hz24; subst hz13; exact (((if_neg hc81)).trans (if_neg hc86)).trans (if_pos hc91)
        rw [hv]
        exact own_retN X6 hx (t := .boolean) Bd.returns (by simp) (hb hby at_99) (BodyLoose.notSynchronized Bd) (w := (1 : Int32)) rfl ⟨rfl, N6⟩ (by decide) (by decide)
      · refine own_step (fun _ => XS.ifYes X6.here hx rfl (pc0 := 91) (pc' := 98) rfl (hb hby at_91) rfl (Jvm.Free.XT.i0_ne_t hc91) (by decide) (by decide)) ?_
        show own_Goes p.tables e below (T6.setTop (mkF m 98 #[.val (.int p0), .val (.int p1), .val (.int p2), .val (.int (p0 &&& (1073741823 : Int32))), .val (.int z13), .val (.int z24), .val (.int z33), .val (.ref b35), .val (.int z53), .val (.int z69), .val (.int z77)] [])) _
        have hv : (own_f0 p0 p1 p2) = (own_f0_98) := by subst hz77; subst hz69; subst hz53; subst hz33; subst hz24; subst hz13; exact (((if_neg hc81)).trans (if_neg hc86)).trans (if_neg hc91)
        rw [hv]
        exact J98 T6 X6 rfl
def own_ans (M a g P : Int32) : Int32 :=
  if own_f3 a M.toInt64 (0 : Int64) = 0 then own_f0_98 else if own_f3 P M.toInt64 ((if M.toInt64 < ((0 : Int64) + a.toInt64) then (0 : Int64) else ((0 : Int64) + a.toInt64)) - g.toInt64) = 0 then own_f0_98 else
    if own_f3 (1 : Int32) M.toInt64 (if M.toInt64 < (((if M.toInt64 < ((0 : Int64) + a.toInt64) then (0 : Int64) else ((0 : Int64) + a.toInt64)) - g.toInt64) + P.toInt64) then ((if M.toInt64 < ((0 : Int64) + a.toInt64) then (0 : Int64) else ((0 : Int64) + a.toInt64)) - g.toInt64) else (((if M.toInt64 < ((0 : Int64) + a.toInt64) then (0 : Int64) else ((0 : Int64) + a.toInt64)) - g.toInt64) + P.toInt64)) = 0 then 1 else own_f0_98
theorem own_main (M a g P : Int32) (hM : 0 ≤ M.toInt ∧ M.toInt < 1073741824) (ha : 0 ≤ a.toInt ∧ a.toInt ≤ M.toInt) (hg : 0 ≤ g.toInt ∧ g.toInt ≤ a.toInt) (hP : P.toInt = M.toInt - (a.toInt - g.toInt)) : own_ans M a g P = 1 := by
  have j0 : (0 : Int64).toInt = 0 := rfl
  have i1 : (1 : Int32).toInt = 1 := rfl
  have eM := Int32.toInt_toInt64 M
  have ea := Int32.toInt_toInt64 a
  have eg := Int32.toInt_toInt64 g
  have eP := Int32.toInt_toInt64 P
  have e1 := Int32.toInt_toInt64 (1 : Int32)
  have k1 : ((0 : Int64) + a.toInt64).toInt = a.toInt := by rw [Jvm.Kit.i64_add (by omega) (by omega)]; omega
  have k2 : (((0 : Int64) + a.toInt64) - g.toInt64).toInt = a.toInt - g.toInt := by rw [Jvm.Kit.i64_sub (by omega) (by omega)]; omega
  have k3 : ((((0 : Int64) + a.toInt64) - g.toInt64) + P.toInt64).toInt = M.toInt := by rw [Jvm.Kit.i64_add (by omega) (by omega)]; omega
  have k4 : (((((0 : Int64) + a.toInt64) - g.toInt64) + P.toInt64) + (1 : Int32).toInt64).toInt = M.toInt + 1 := by rw [Jvm.Kit.i64_add (by omega) (by omega)]; omega
  have n1 : ¬ (M.toInt64 < ((0 : Int64) + a.toInt64)) := by rw [Int64.lt_iff_toInt_lt]; omega
  have n2 : ¬ (M.toInt64 < ((((0 : Int64) + a.toInt64) - g.toInt64) + P.toInt64)) := by rw [Int64.lt_iff_toInt_lt]; omega
  have n3 : M.toInt64 < (((((0 : Int64) + a.toInt64) - g.toInt64) + P.toInt64) + (1 : Int32).toInt64) := by rw [Int64.lt_iff_toInt_lt]; omega
  unfold own_ans own_f3 own_f4
  simp only [n1, n2, n3, ↓reduceIte]
  decide
theorem own_law (p0 : Int32) (p1 : Int32) (p2 : Int32) : own_f0 p0 p1 p2 = 1 := by
  have hM := own_m30 p0
  have ha := own_part hM p1
  have hg := own_part (own_lt ha hM) p2
  refine own_main _ _ _ _ hM ha hg ?_
  have e1 := Jvm.Kit.i32_sub (p := ((p1 &&& (2147483647 : Int32)) - (p1 &&& (2147483647 : Int32)) / ((p0 &&& (1073741823 : Int32)) + (1 : Int32)) * ((p0 &&& (1073741823 : Int32)) + (1 : Int32)))) (q := ((p2 &&& (2147483647 : Int32)) - (p2 &&& (2147483647 : Int32)) / (((p1 &&& (2147483647 : Int32)) - (p1 &&& (2147483647 : Int32)) / ((p0 &&& (1073741823 : Int32)) + (1 : Int32)) * ((p0 &&& (1073741823 : Int32)) + (1 : Int32))) + (1 : Int32)) * (((p1 &&& (2147483647 : Int32)) - (p1 &&& (2147483647 : Int32)) / ((p0 &&& (1073741823 : Int32)) + (1 : Int32)) * ((p0 &&& (1073741823 : Int32)) + (1 : Int32))) + (1 : Int32)))) (by omega) (by omega)
  rw [← e1]
  exact Jvm.Kit.i32_sub (by omega) (by omega)
set_option maxRecDepth 65536 in
set_option maxHeartbeats 40000000 in
theorem comes_1 {Post : Tables → Env → Array Value → State → Outcome → State → Prop} (hpost : ∀ tb e args s v u, (limb_1_1.after args s (.returned v) u = true ∧ limb_1_2.after args s (.returned v) u = true ∧ True) → FrameEnd s (.returned v) u (Jvm.fieldLocs frame_1_writes args s ++ Jvm.arrayLocs frame_1_arrays args s ++ Jvm.staticLocs frame_1_statics s) 16 128 → Post tb e args s (.returned v) u) :
    ArmFor flags0 classFile x code maxLocals ret World_1 tables_1 room_1 Calls_1 rest_1 Pre_1 Post := by
  intro l hfl _ _ p e ha hc hk s m args below hf hA hF happ hP
  obtain ⟨hcalls, hrest, hpre⟩ := hP
  obtain ⟨-, -, -, hnamed, -, -, -, hat⟩ := (Spec.applies_iff hf).mp happ
  obtain ⟨hg, hn⟩ := and_e (Cond.before_iff.mp (show (Jvm.Cond.and given_1 narrow_1).before args s = true from hpre))
  obtain ⟨g1, g2⟩ := and_e hg
  obtain ⟨g3, g4⟩ := and_e g2
  obtain ⟨g5, g6⟩ := and_e g4
  obtain ⟨w0, w1, w2, rfl⟩ : ∃ w0 w1 w2 : Value, args = #[w0, w1, w2] := by
    have hs : args.size = 3 := by simpa [Cond.value, given_1] using g1
    obtain ⟨L⟩ := args
    match L, hs with
    | [w0, w1, w2], _ => exact ⟨w0, w1, w2, rfl⟩
  have hw := fun d (hd : d ∈ tables_1) => atoms_spec (ws := Jvm.Cond.code x code maxLocals ret :: tables_1) hat d (List.mem_cons_of_mem _ hd)
  obtain ⟨i0, ei0⟩ := is_v g3
  obtain rfl : w0 = (.int i0) := Option.some.inj ei0
  obtain ⟨i1, ei1⟩ := is_v g5
  obtain rfl : w1 = (.int i1) := Option.some.inj ei1
  obtain ⟨i2, ei2⟩ := is_v g6
  obtain rfl : w2 = (.int i2) := Option.some.inj ei2
  have hrm := rm0 l s _ hw tables_1 i0 i1 i2 s.heap s.heap.size (Nat.le_refl _)
  rw [own_law i0 i1 i2] at hrm
  obtain ⟨n, o, h1, h2, h3, _, L, rfl, ⟨rfl, N⟩, hq⟩ := hrm p e ha hc hk s m _ below hf ((Spec.applies_iff_loose hf).mp happ).1 ⟨rfl, State.Warmed39.refl s, rfl⟩ trivial
  refine ⟨n, _, h1, h2, h3, hpost _ _ _ _ _ _ ⟨Cond.after_iff.mpr rfl, Cond.after_iff.mpr (eq_i res_at (Term.int_eval (1)) rfl), trivial⟩ ⟨hq.1, hq.2.1, (hq.2.2.sift fun y hy => Or.inr (N y hy)).mono (by decide) (by decide)⟩⟩
theorem main_1_1 : Claimed_1_1 := comes_1 fun _ _ _ _ _ _ h hF => ⟨h.1, hF⟩
theorem main_1_2 : Claimed_1_2 := comes_1 fun _ _ _ _ _ _ h hF => ⟨h.2.1, hF⟩
end Jvm.Pilot.@@N@@
namespace Jvm.Pilot.@@N@@
open Jvm Jvm.ClassFile Sem Op Lib Jvm.Free Jvm.Stand Jvm.Pilot.@@N@@.Jvm.D
/-! MADE BY PROGRAM (witnessworld.py) out of the Statement's table words and the real class files: 9 classes; the members and pool entries that the words name. The judged class is class 1, her method 1. -/
namespace start1
open Jvm.ClassFile
def u (s : String) : CpInfo := .utf8 (stringToUtf16 s)
/-- a pool by its gaps: so many unusable entries, then the entry; so many at the end -/
def gap : Nat → List CpInfo → List CpInfo
  | 0, r => r
  | n + 1, r => .unusable :: gap n r
def poolList (es : List (Nat × CpInfo)) (last : Nat) : List CpInfo := es.foldr (fun e r => gap e.1 (e.2 :: r)) (gap last [])
def pool (es : List (Nat × CpInfo)) (last : Nat) : Array CpInfo := ⟨poolList es last⟩
def fileOf (pool : Array CpInfo) (this : Nat) (attrs : Array Attribute := #[]) (ms : Array MethodInfo := #[]) (fl : Nat := 33) (sup : Nat := 0) (ifs : Array Nat := #[]) (fds : Array FieldInfo := #[]) : ClassFile where
  minorVersion := 0
  majorVersion := 65
  constantPool := pool
  accessFlags := fl
  thisClass := this
  superClass := sup
  interfaces := ifs
  fields := fds
  methods := ms
  attributes := attrs
def plain (name : String) (sup : Option ClassId) : Class where
  name := name
  kind := .ordinary
  loader := none
  accessFlags := 33
  super := sup
  interfaces := #[]
  cf := none
  fields := #[]
  methods := #[]
  instanceTypes := #[]
  staticTypes := #[]
  resolved := #[]
  callSites := []
  init := .initialized
  statics := none
  mirror := none

def pool0 : Array CpInfo := pool [(5, u "<init>"), (0, u "()V"), (1, .class_ 10), (1, u "java/lang/Object")] 113

def k0c0 : Code := { maxStack := 0, maxLocals := 1, code := object_method_1_code, exceptionTable := #[], attributes := #[] }
def k0m0 : Method := { name := "<init>", desc := "()V", sig := { parameters := [], returnType := none }, accessFlags := 1, code := some k0c0 }
/-- java/lang/Object -/
def k0 : Class := { plain "java/lang/Object" none with
  accessFlags := 33
  interfaces := #[]
  cf := some (fileOf pool0 8 #[] #[{ accessFlags := 1, nameIndex := 5, descriptorIndex := 6, attributes := #[] }] 33 0 #[] #[])
  fields := #[]
  methods := #[k0m0]
  instanceTypes := #[]
  staticTypes := #[]
  resolved := Array.replicate 124 none
  statics := none }

def pool1 : Array CpInfo := pool [(2, .class_ 4), (1, u "java/lang/Object"), (0, u "<init>"), (0, u "()V"), (0, .integer 1073741823), (0, .integer 2147483647), (0, .class_ 10), (0, u "com/example/sandpiper/sandpiper/broker/ReadBudget"), (0, .methodref 9 12), (0, .nameAndType 5 13), (0, u "(J)V"), (0, .methodref 9 15), (0, .nameAndType 16 17), (0, u "takeFirst"), (0, u "(I)Z"), (0, .methodref 9 19), (0, .nameAndType 20 21), (0, u "giveBack"), (0, u "(I)V"), (0, .class_ 23), (0, u "com/example/sandpiper/sandpiper/broker/ReadBudgetGiveBackPinLaw"), (2, u "law"), (0, u "(III)Z")] 3

def k1m0 : Method := { name := "<init>", desc := "()V", sig := { parameters := [], returnType := none }, accessFlags := 1, code := none }
def k1c1 : Code := { maxStack := 4, maxLocals := 11, code := code, exceptionTable := #[], attributes := #[] }
def k1m1 : Method := { name := "law", desc := "(III)Z", sig := { parameters := [.int, .int, .int], returnType := some .boolean }, accessFlags := 9, code := some k1c1 }
/-- com/example/sandpiper/sandpiper/broker/ReadBudgetGiveBackPinLaw -/
def k1 : Class := { plain "com/example/sandpiper/sandpiper/broker/ReadBudgetGiveBackPinLaw" (some 0) with
  accessFlags := 49
  interfaces := #[]
  cf := some (fileOf pool1 22 #[] #[{ accessFlags := 1, nameIndex := 5, descriptorIndex := 6, attributes := #[] }, { accessFlags := 9, nameIndex := 26, descriptorIndex := 27, attributes := #[] }] 49 2 #[] #[])
  fields := #[]
  methods := #[k1m0, k1m1]
  instanceTypes := #[]
  staticTypes := #[]
  resolved := Array.replicate 31 none
  statics := none }

def pool2 : Array CpInfo := pool [(1, .methodref 2 3), (0, .class_ 4), (0, .nameAndType 5 6), (0, u "java/lang/Object"), (0, u "<init>"), (0, u "()V"), (0, .fieldref 8 9), (0, .class_ 10), (0, .nameAndType 11 12), (0, u "com/example/sandpiper/sandpiper/broker/ReadBudget"), (0, u "most"), (0, u "J"), (0, .long 4), (1, .fieldref 8 16), (0, .nameAndType 17 12), (0, u "mostGrown"), (0, .methodref 8 19), (0, .nameAndType 20 21), (0, u "take"), (0, u "(IJ)Z"), (0, .fieldref 8 23), (0, .nameAndType 24 12), (0, u "kept"), (0, u "(J)V"), (2, u "takeFirst"), (0, u "(I)Z"), (1, u "giveBack"), (0, u "(I)V")] 3

def k2c0 : Code := { maxStack := 7, maxLocals := 3, code := prog_18_method_1_code, exceptionTable := #[], attributes := #[] }
def k2m0 : Method := { name := "<init>", desc := "(J)V", sig := { parameters := [.long], returnType := none }, accessFlags := 0, code := some k2c0 }
def k2c1 : Code := { maxStack := 4, maxLocals := 2, code := prog_18_method_2_code, exceptionTable := #[], attributes := #[] }
def k2m1 : Method := { name := "takeFirst", desc := "(I)Z", sig := { parameters := [.int], returnType := some .boolean }, accessFlags := 0, code := some k2c1 }
def k2c2 : Code := { maxStack := 5, maxLocals := 2, code := prog_18_method_4_code, exceptionTable := #[], attributes := #[] }
def k2m2 : Method := { name := "giveBack", desc := "(I)V", sig := { parameters := [.int], returnType := none }, accessFlags := 0, code := some k2c2 }
def k2c3 : Code := { maxStack := 5, maxLocals := 4, code := prog_18_method_5_code, exceptionTable := #[], attributes := #[] }
def k2m3 : Method := { name := "take", desc := "(IJ)Z", sig := { parameters := [.int, .long], returnType := some .boolean }, accessFlags := 2, code := some k2c3 }
/-- com/example/sandpiper/sandpiper/broker/ReadBudget -/
def k2 : Class := { plain "com/example/sandpiper/sandpiper/broker/ReadBudget" (some 0) with
  accessFlags := 48
  interfaces := #[]
  cf := some (fileOf pool2 8 #[] #[{ accessFlags := 0, nameIndex := 5, descriptorIndex := 25, attributes := #[] }, { accessFlags := 0, nameIndex := 28, descriptorIndex := 29, attributes := #[] }, { accessFlags := 0, nameIndex := 31, descriptorIndex := 32, attributes := #[] }, { accessFlags := 2, nameIndex := 20, descriptorIndex := 21, attributes := #[] }] 48 2 #[] #[{ accessFlags := 18, nameIndex := 11, descriptorIndex := 12, attributes := #[] }, { accessFlags := 18, nameIndex := 17, descriptorIndex := 12, attributes := #[] }, { accessFlags := 2, nameIndex := 24, descriptorIndex := 12, attributes := #[] }])
  fields := #[{ name := "most", type := .long, accessFlags := 18, slot := 0, constantValue := 0 }, { name := "mostGrown", type := .long, accessFlags := 18, slot := 1, constantValue := 0 }, { name := "kept", type := .long, accessFlags := 2, slot := 2, constantValue := 0 }]
  methods := #[k2m0, k2m1, k2m2, k2m3]
  instanceTypes := #[.long, .long, .long]
  staticTypes := #[]
  resolved := Array.replicate 36 none
  statics := none }

def pool3 : Array CpInfo := pool [(1, u "java/lang/Cloneable"), (0, .class_ 1), (0, u "java/lang/Object"), (0, .class_ 3)] 3

/-- java/lang/Cloneable -/
def k3 : Class := { plain "java/lang/Cloneable" (some 0) with
  accessFlags := 1537
  interfaces := #[]
  cf := some (fileOf pool3 2 #[] #[] 1537 4 #[] #[])
  fields := #[]
  methods := #[]
  instanceTypes := #[]
  staticTypes := #[]
  resolved := Array.replicate 8 none
  statics := none }

def pool4 : Array CpInfo := pool [(1, u "java/io/Serializable"), (0, .class_ 1), (0, u "java/lang/Object"), (0, .class_ 3)] 3

/-- java/io/Serializable -/
def k4 : Class := { plain "java/io/Serializable" (some 0) with
  accessFlags := 1537
  interfaces := #[]
  cf := some (fileOf pool4 2 #[] #[] 1537 4 #[] #[])
  fields := #[]
  methods := #[]
  instanceTypes := #[]
  staticTypes := #[]
  resolved := Array.replicate 8 none
  statics := none }

/-- the primitive byte -/
def k5 : Class := { plain "byte" none with kind := .primitive 'B', accessFlags := 0x411 }
/-- [B -/
def k6 : Class := { plain "[B" (some 0) with kind := .array 5 .byte, interfaces := #[3, 4], accessFlags := 1041 }

/-- the primitive int -/
def k7 : Class := { plain "int" none with kind := .primitive 'I', accessFlags := 0x411 }
/-- [I -/
def k8 : Class := { plain "[I" (some 0) with kind := .array 7 .int, interfaces := #[3, 4], accessFlags := 1041 }

def heap : Heap := #[]
def classes : Array Class := #[k0, k1, k2, k3, k4, k5, k6, k7, k8]
def interned : List (Array UInt16 × Addr) := []
def slotsUsed : Nat := 0
def theMethod : MethodId := ⟨1, 1⟩
def args0 : Array Value := #[.int 7, .int 3, .int 2]
def aboutOver (below : List Frame) : State where
  vm := { classes := classes, interned := interned.toArray }
  heap := heap
  slotsUsed := slotsUsed
  threads := #[{ frames := .invoking theMethod args0 :: below }]
def below0 : List Frame := [.native { method := ⟨0, 0⟩, args := #[] }]
def about1 : State := aboutOver below0
def p0 : Program := .bare "" "" ""
def e0 : Env := launch0.env 0 0 0
theorem w_frames : about1.frames = Frame.invoking theMethod args0 :: below0 := rfl
set_option maxRecDepth 65536 in
theorem w_args : argsFit about1.vm theMethod args0 = true := by decide +kernel
set_option maxRecDepth 65536 in
theorem w_heap : heapFits about1 = true := by decide +kernel
set_option maxRecDepth 65536 in
theorem w_runnable : about1.curStatus? = some .runnable := by decide +kernel
set_option maxRecDepth 65536 in
theorem w_alone : about1.alone = true := by decide +kernel
set_option maxRecDepth 65536 in
theorem w_named : about1.methodNamed? x = some theMethod := by decide +kernel
set_option maxRecDepth 65536 in
theorem w_hears : about1.hears theMethod below0 = true := by decide +kernel
set_option maxRecDepth 65536 in
theorem w_ripe : about1.ripe theMethod args0 below0 = true := by decide +kernel
theorem w_running : about1.status = .running := rfl
set_option maxRecDepth 65536 in
theorem w_room : about1.hasRoom e0.platform room_1 = true :=
  launch0.hasRoom_least _ room_1 (by decide +kernel) (by decide +kernel) (by decide +kernel) (by decide +kernel) (by decide +kernel) (by decide +kernel)
theorem allAtoms_all (ts : List Jvm.Cond) (a : Array Jvm.Value) (st : Jvm.State) : (allAtoms ts).before a st = ts.all (fun c => c.before a st) := by
  induction ts with
  | nil => rfl
  | cons c t ih =>
    show (Jvm.Cond.and c (allAtoms t)).before a st = _
    rw [Jvm.Cond.before_and, ih, List.all_cons]
def words1 : List Jvm.Cond := Jvm.Cond.code x code maxLocals ret :: tables_1
/-- a 'code' word, met by the world's own term for the bytes: nothing is compared byte by byte -/
theorem code_word {y : MethodName} {bytes : ByteArray} {mx : Nat} {rt : Option FieldType} {a : Array Value} {s : State} {m : MethodId} {meth : Method} {c : Code} (h1 : s.methodNamed? y = some m) (h2 : s.vm.method? m = some meth) (h3 : meth.code = some c) (h4 : c.code = bytes)
    (h5 : (c.maxLocals == mx && c.exceptionTable.isEmpty && decide (c.maxStack ≤ mostOperands) && decide (meth.sig.returnType = rt) && !meth.locks && decide (parseMethodDescriptor y.desc = some meth.sig)) = true) : (Jvm.Cond.code y bytes mx rt).before a s = true := by
  simp only [Bool.and_eq_true, beq_iff_eq, Bool.not_eq_true', decide_eq_true_eq] at h5
  obtain ⟨⟨⟨⟨⟨g1, g2⟩, g3⟩, g4⟩, g5⟩, g6⟩ := h5
  simp [Cond.before, Cond.holds, Cond.value, h1, h2, h3, h4, g1, g2, g3, g4, g5, g6]
def isCode : Jvm.Cond → Bool
  | .code _ _ _ _ => true
  | _ => false
theorem all_split {L : List Jvm.Cond} {P : Jvm.Cond → Bool} (h1 : L.all (fun c => isCode c || P c) = true) (h2 : ∀ c ∈ L.filter isCode, P c = true) : L.all P = true := by
  refine List.all_eq_true.mpr fun c hc => ?_
  have h := List.all_eq_true.mp h1 c hc
  rcases Bool.eq_false_or_eq_true (isCode c) with hi | hi
  · exact h2 c (List.mem_filter.mpr ⟨hc, hi⟩)
  · simpa [hi] using h
set_option maxRecDepth 65536 in
theorem w_c0 : (Jvm.Cond.code x code maxLocals ret).before args0 about1 = true := code_word (m := ⟨1, 1⟩) (meth := k1m1) (c := k1c1) (by decide +kernel) rfl rfl rfl (by decide +kernel)
set_option maxRecDepth 65536 in
theorem w_c1 : (Jvm.Cond.code ({ cls := "com/example/sandpiper/sandpiper/broker/ReadBudget", name := "<init>", desc := "(J)V" } : Jvm.MethodName) prog_18_method_1_code (3 : Nat) (Option.none : Option Jvm.ClassFile.FieldType)).before args0 about1 = true := code_word (m := ⟨2, 0⟩) (meth := k2m0) (c := k2c0) (by decide +kernel) rfl rfl rfl (by decide +kernel)
set_option maxRecDepth 65536 in
theorem w_c2 : (Jvm.Cond.code ({ cls := "java/lang/Object", name := "<init>", desc := "()V" } : Jvm.MethodName) object_method_1_code (1 : Nat) (Option.none : Option Jvm.ClassFile.FieldType)).before args0 about1 = true := code_word (m := ⟨0, 0⟩) (meth := k0m0) (c := k0c0) (by decide +kernel) rfl rfl rfl (by decide +kernel)
set_option maxRecDepth 65536 in
theorem w_c3 : (Jvm.Cond.code ({ cls := "com/example/sandpiper/sandpiper/broker/ReadBudget", name := "takeFirst", desc := "(I)Z" } : Jvm.MethodName) prog_18_method_2_code (2 : Nat) (Option.some Jvm.ClassFile.FieldType.boolean)).before args0 about1 = true := code_word (m := ⟨2, 1⟩) (meth := k2m1) (c := k2c1) (by decide +kernel) rfl rfl rfl (by decide +kernel)
set_option maxRecDepth 65536 in
theorem w_c4 : (Jvm.Cond.code ({ cls := "com/example/sandpiper/sandpiper/broker/ReadBudget", name := "take", desc := "(IJ)Z" } : Jvm.MethodName) prog_18_method_5_code (4 : Nat) (Option.some Jvm.ClassFile.FieldType.boolean)).before args0 about1 = true := code_word (m := ⟨2, 3⟩) (meth := k2m3) (c := k2c3) (by decide +kernel) rfl rfl rfl (by decide +kernel)
set_option maxRecDepth 65536 in
theorem w_c5 : (Jvm.Cond.code ({ cls := "com/example/sandpiper/sandpiper/broker/ReadBudget", name := "giveBack", desc := "(I)V" } : Jvm.MethodName) prog_18_method_4_code (2 : Nat) (Option.none : Option Jvm.ClassFile.FieldType)).before args0 about1 = true := code_word (m := ⟨2, 2⟩) (meth := k2m2) (c := k2c2) (by decide +kernel) rfl rfl rfl (by decide +kernel)
def codes1 : List Jvm.Cond := [Jvm.Cond.code x code maxLocals ret, Jvm.Cond.code ({ cls := "com/example/sandpiper/sandpiper/broker/ReadBudget", name := "<init>", desc := "(J)V" } : Jvm.MethodName) prog_18_method_1_code (3 : Nat) (Option.none : Option Jvm.ClassFile.FieldType), Jvm.Cond.code ({ cls := "java/lang/Object", name := "<init>", desc := "()V" } : Jvm.MethodName) object_method_1_code (1 : Nat) (Option.none : Option Jvm.ClassFile.FieldType), Jvm.Cond.code ({ cls := "com/example/sandpiper/sandpiper/broker/ReadBudget", name := "takeFirst", desc := "(I)Z" } : Jvm.MethodName) prog_18_method_2_code (2 : Nat) (Option.some Jvm.ClassFile.FieldType.boolean), Jvm.Cond.code ({ cls := "com/example/sandpiper/sandpiper/broker/ReadBudget", name := "take", desc := "(IJ)Z" } : Jvm.MethodName) prog_18_method_5_code (4 : Nat) (Option.some Jvm.ClassFile.FieldType.boolean), Jvm.Cond.code ({ cls := "com/example/sandpiper/sandpiper/broker/ReadBudget", name := "giveBack", desc := "(I)V" } : Jvm.MethodName) prog_18_method_4_code (2 : Nat) (Option.none : Option Jvm.ClassFile.FieldType)]
set_option maxRecDepth 65536 in
theorem codes_eq : words1.filter isCode = codes1 := rfl
theorem w_codes : ∀ c ∈ words1.filter isCode, c.before args0 about1 = true := by
  rw [codes_eq]
  intro c hc
  simp only [codes1, List.mem_cons, List.not_mem_nil, or_false] at hc
  rcases hc with rfl | rfl | rfl | rfl | rfl | rfl
  · exact w_c0
  · exact w_c1
  · exact w_c2
  · exact w_c3
  · exact w_c4
  · exact w_c5
set_option maxRecDepth 65536 in
theorem w_t1 : (words1.take 24).all (fun c => isCode c || c.before args0 about1) = true := by decide +kernel
set_option maxRecDepth 65536 in
theorem w_t2 : (words1.drop 24).all (fun c => isCode c || c.before args0 about1) = true := by decide +kernel
theorem w_tables : (allAtoms (Jvm.Cond.code x code maxLocals ret :: tables_1)).before args0 about1 = true := by
  rw [allAtoms_all]
  show words1.all (fun c => c.before args0 about1) = true
  refine all_split ?_ w_codes
  rw [← List.take_append_drop 24 words1, List.all_append, w_t1, w_t2]
  rfl
set_option maxRecDepth 65536 in
theorem w_case : (Jvm.Cond.and given_1 narrow_1).before args0 about1 = true := by decide +kernel
theorem w_applies : (headSpec (Jvm.Cond.code x code maxLocals ret :: tables_1) room_1).applies x e0.platform about1 = true :=
  (Spec.applies_iff w_frames).mpr ⟨w_running, w_runnable, w_alone, w_named, w_hears, w_ripe, w_room, w_tables⟩
theorem atStart : AtStart classFile x code maxLocals ret World_1 tables_1 room_1 Calls_1 rest_1 Pre_1 launch0 p0 e0 about1 theMethod args0 below0 :=
  ⟨lists_1, trivial, launch0.admits_env _ _ _, launch0.least_env, fairChoices_fair.cas, fairChoices_fair.clock, w_frames, w_args, w_heap, w_applies, trivial, trivial, w_case⟩
end start1
theorem witness_1 : WitnessClaimed_1 := ⟨start1.p0, start1.e0, start1.about1, start1.theMethod, start1.args0, start1.below0, start1.atStart⟩
end Jvm.Pilot.@@N@@
