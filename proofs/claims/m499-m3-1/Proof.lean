import JvmDerived
import JvmDerived.Pilot.@@N@@Statement
import JvmDerived.Pilot.@@N@@Code
set_option linter.unusedVariables false
set_option linter.unusedSimpArgs false
@@BLOCK:NumsL.lean.txt@@
namespace Jvm.RoadKit
open Sem ClassFile Op Lib Jvm.Stand Jvm.Free Jvm.LawKit
section New
variable {p : Program} {l : Launch} {e : Env} {R : Room} {s : State} {m : MethodId} {args : Array Value} {below : List Frame} {meth : Method} {c : Code} {T : State} {locs : List Loc} {cells slots : Nat}
theorem retI (X : Stand p l e R s m args below meth c T locs cells slots) (hx : p.tables.exec = Jvm.exec) {pc : Nat} {Ls : Array Slot} {z : Int32} {rest : List Value} (hret : meth.sig.returnType = some .int) (hd : decode c.code pc = .ok (.ireturn, 1)) {fs : List Frame}
    (hl : ∀ (f : JFrame) (acts : List Action), f.method = m → f.locked = none → f.entered = [] → (doReturn e (T.setTop f) acts (some (.int z))).1 = T.setFrames fs) : Steps p.tables e below (T.setTop (mkF m pc Ls (.int z :: rest))) (T.setFrames fs) := by
  have hm' : T.vm.method? m = some meth := X.method'
  have hn : narrow .int (.int z) = .int z := rfl
  show Steps p.tables e below (T.setTop { method := m, pc := pc, locals := Ls, stack := _ :: rest, locked := none }) _
  jvm_step X.here [X.here.top, hx, hd, hm', hret, hn]
  first | (intro acts; rw [hl _ acts rfl rfl rfl]) | rw [hl _ _ rfl rfl rfl]
  exact Steps.refl _
end New
end Jvm.RoadKit
namespace Jvm.Pilot.@@N@@
open Jvm Jvm.ClassFile Sem Op Lib Jvm.Free Jvm.Stand Jvm.LawKit Jvm.RoadKit Bundle Jvm.Pilot.@@N@@.Jvm.D
section Own
variable {p : Program} {l : Launch} {e : Env} {R : Room} {s : State} {m : MethodId} {args : Array Value} {below : List Frame} {meth : Method} {c : Code} {T : State} {locs : List Loc} {cells slots : Nat}
/-- the run goes on from S to its end, and P holds there -/
def own_Goes (tb : Tables) (e : Env) (below : List Frame) (S : State) (P : State → Outcome → Prop) : Prop :=
  ∃ s₂ o, Steps tb e below S s₂ ∧ s₂.status = .running ∧ Ended s₂ below o ∧ P s₂ o
theorem own_step {tb : Tables} {S S' : State} {P : State → Outcome → Prop} (h : ∀ t, Steps tb e below S' t → Steps tb e below S t) (k : own_Goes tb e below S' P) : own_Goes tb e below S P := by
  obtain ⟨s₂, o, h1, h2⟩ := k
  exact ⟨s₂, o, h _ h1, h2⟩
theorem own_enter {tb : Tables} {g g' : JFrame} {P : State → Outcome → Prop} (q : g = g') (k : own_Goes tb e below (T.setTop g') P) : own_Goes tb e below (T.setTop g) P := q ▸ k
def own_P (s : State) (Q : Option Value → Heap → List Loc → Prop) (C K : Nat) : State → Outcome → Prop := fun U o => ∃ v L, o = .returned v ∧ Q v U.heap L ∧ FrameEnd s o U L C K
/-- a body that writes nothing -/
def own_Qp (w : Option Value) (h0 : Heap) (v : Option Value) (h : Heap) (L : List Loc) : Prop := v = w ∧ L = [] ∧ h = h0
/-- a body that makes cells and writes none that stood before -/
def own_Qa (w : Option Value) (h0 : Heap) (n0 : Nat) (v : Option Value) (h : Heap) (L : List Loc) : Prop := v = w ∧ Fr n0 L ∧ Keep h0 h []
/-- the law -/
def own_Ql (w : Option Value) (n0 : Nat) (v : Option Value) (h : Heap) (L : List Loc) : Prop := v = w ∧ Fr n0 L
variable {Q : Option Value → Heap → List Loc → Prop} {C K : Nat}
theorem own_retI (X : Stand p l e R s m args below meth c T locs cells slots) (hx : p.tables.exec = Jvm.exec) {pc : Nat} {Ls : Array Slot} {z : Int32} {rest : List Value} (hret : meth.sig.returnType = some .int) (hd : decode c.code pc = .ok (.ireturn, 1)) (hk : meth.locks = false)
    (hQ : Q (some (.int z)) T.heap locs) (hc : cells ≤ C) (hs : slots ≤ K) : own_Goes p.tables e below (T.setTop (mkF m pc Ls (.int z :: rest))) (own_P s Q C K) := by
  obtain ⟨fs, hr, hrun, hended, hW, hsame⟩ := X.leave (v := some (.int z)) (fun h => by rw [hret] at h; cases h) hk
  exact ⟨_, _, retI X hx hret hd hr, hrun, hended, _, _, rfl, hQ, ⟨_, rfl⟩, hW, hsame.mono hc hs⟩
theorem own_retN (X : Stand p l e R s m args below meth c T locs cells slots) (hx : p.tables.exec = Jvm.exec) {pc : Nat} {Ls : Array Slot} {z : Int32} {t : FieldType} {rest : List Value} (hret : meth.sig.returnType = some t) (ht : t = .boolean ∨ t = .byte ∨ t = .char ∨ t = .short) (hd : decode c.code pc = .ok (.ireturn, 1)) (hk : meth.locks = false)
    {w : Int32} (hw : nar t z = w) (hQ : Q (some (.int w)) T.heap locs) (hc : cells ≤ C) (hs : slots ≤ K) : own_Goes p.tables e below (T.setTop (mkF m pc Ls (.int z :: rest))) (own_P s Q C K) := by
  subst hw
  obtain ⟨fs, hr, hrun, hended, hW, hsame⟩ := X.leave (v := some (.int (nar t z))) (fun h => by rw [hret] at h; cases h) hk
  exact ⟨_, _, retN X hx hret ht hd hr, hrun, hended, _, _, rfl, hQ, ⟨_, rfl⟩, hW, hsame.mono hc hs⟩
theorem own_retJ (X : Stand p l e R s m args below meth c T locs cells slots) (hx : p.tables.exec = Jvm.exec) {pc : Nat} {Ls : Array Slot} {z : Int64} (hret : meth.sig.returnType = some .long) (hd : decode c.code pc = .ok (.lreturn, 1)) (hk : meth.locks = false)
    (hQ : Q (some (.long z)) T.heap locs) (hc : cells ≤ C) (hs : slots ≤ K) : own_Goes p.tables e below (T.setTop (mkF m pc Ls [.long z])) (own_P s Q C K) := by
  obtain ⟨fs, hr, hrun, hended, hW, hsame⟩ := X.leave (v := some (.long z)) (fun h => by rw [hret] at h; cases h) hk
  exact ⟨_, _, X.lreturnOut hx hret hd hr, hrun, hended, _, _, rfl, hQ, ⟨_, rfl⟩, hW, hsame.mono hc hs⟩
theorem own_retV (X : Stand p l e R s m args below meth c T locs cells slots) (hx : p.tables.exec = Jvm.exec) {pc : Nat} {Ls : Array Slot} (hret : meth.sig.returnType = none) (hd : decode c.code pc = .ok (.return_, 1)) (hk : meth.locks = false)
    (hQ : Q none T.heap locs) (hc : cells ≤ C) (hs : slots ≤ K) : own_Goes p.tables e below (T.setTop (mkF m pc Ls [])) (own_P s Q C K) := by
  obtain ⟨fs, hr, hrun, hended, hW, hsame⟩ := X.leave (v := none) (fun _ => rfl) hk
  exact ⟨_, _, X.returnOut hx hret hd hr, hrun, hended, _, _, rfl, hQ, ⟨_, rfl⟩, hW, hsame.mono hc hs⟩
theorem own_flat (X : Stand p l e R s m args below meth c T (locs ++ []) (cells + 0) (slots + 0)) : Stand p l e R s m args below meth c T locs cells slots := List.append_nil locs ▸ X
end Own

section OwnArr
variable {p : Program} {l : Launch} {e : Env} {R : Room} {s : State} {m : MethodId} {args : Array Value} {below : List Frame} {meth : Method} {c : Code} {T : State} {locs : List Loc} {cells slots : Nat} {Z : State} {a0 : Array Value} {h h' : Heap} {a : Addr} {k : ClassId} {ty : FieldType} {n : Int32} {xs : List Int32}
/-- an array of ints (bytes, chars ..) that the road has made: xs are its elements -/
def own_A (Z : State) (h : Heap) (a : Addr) (k : ClassId) (ty : FieldType) (n : Int32) (xs : List Int32) : Prop := Arv Z h a k ty n (xs.map Value.int) (.int 0)
theorem own_A.keep {ws : List Addr} (V : own_A Z h a k ty n xs) (K : Keep h h' ws) (q : a ∉ ws) : own_A Z h' a k ty n xs := Arv.keep V K q
theorem own_newA (X : Stand p l e R s m args below meth c T locs cells slots) (hx : p.tables.exec = Jvm.exec) (hZ : Z.Warmed39 s.vm) {aty : ArrayType} (w : (Jvm.Cond.arrayClass (newarray.typeOf aty)).before a0 Z = true) (eT : T.heap = h) {g : JFrame} (hg : g.method = m) (hd : decode c.code g.pc = .ok (.newarray aty, 2)) {rest : List Value} (hs : g.stack = .int n :: rest)
    (N : Nat) (hn : ¬ n < 0) (hN : n.toNatClampNeg = N) (hb : N * 8 ≤ 536870912) (hc : cells + 1 ≤ R.cells) (hl : slots + N ≤ R.slots) (h0 : defaultValue (newarray.typeOf aty) = .int 0) :
    ∃ T' h' a k, Stand p l e R s m args below meth c T' locs (cells + 1) (slots + N) ∧ T'.heap = h' ∧ Ext h h' ∧ a = h.size ∧ own_A Z h' a k (newarray.typeOf aty) n (List.replicate N 0) ∧
      ∀ target, Steps p.tables e below (T'.setTop { g with pc := g.pc + 2, stack := .ref a :: rest }) target → Steps p.tables e below (T.setTop g) target := by
  obtain ⟨T', h', cA, X', e', E, A, st⟩ := newP X hx hZ w eT hg hd hs hn (cap := N) (Nat.le_of_eq hN) hb hc hl
  refine ⟨T', h', h.size, cA, X', e', E, rfl, ?_, st⟩
  have V := Arv.new A hn
  rw [h0] at V
  have V' := V.pad (pad_rep [] (.int 0) N)
  unfold own_A
  rw [List.map_replicate]
  exact V'
theorem own_setA {j x : Int32} {cl : Cell} (A : Arr Z h a cl ty) (q : cl.cls = k) (S : cl.slots.size = n.toNatClampNeg) (N : ¬ n < 0) (H : Has cl (xs.map Value.int) (.int 0)) (G : ∀ i, i < cl.slots.size → fits ty ((xs.map Value.int).getD i (.int 0)) = true) (hf : fits ty (.int x) = true)
    (W : Wr h h' a j.toNatClampNeg (.int x)) (i : Nat) (hj : j.toNatClampNeg = i) (hi : i < xs.length) : own_A Z h' a k ty n (xs.set i x) := by
  have V := Arv.set A q S N H G hf W i hj (by simpa using hi)
  unfold own_A
  rw [List.map_set]
  exact V
theorem own_stI (X : Stand p l e R s m args below meth c T locs cells slots) (hx : p.tables.exec = Jvm.exec) (hZ : Z.Warmed39 s.vm) (eT : T.heap = h) (V : own_A Z h a k .int n xs) {j x : Int32} (i : Nat) (hj : ¬ j < 0 ∧ j < n) (hi : j.toNatClampNeg = i) (hl : i < xs.length)
    {g : JFrame} (hg : g.method = m) {rest : List Value} (hs : g.stack = .int x :: .int j :: .ref a :: rest) (hd : decode c.code g.pc = .ok (.iastore, 1)) :
    ∃ T' h' L', Stand p l e R s m args below meth c T' L' cells slots ∧ T'.heap = h' ∧ (∀ n0, Fr n0 locs → n0 ≤ a → Fr n0 L') ∧ own_A Z h' a k .int n (xs.set i x) ∧ Wr h h' a j.toNatClampNeg (.int x) ∧
      ∀ target, Steps p.tables e below (T'.setTop { g with pc := g.pc + 1, stack := rest }) target → Steps p.tables e below (T.setTop g) target := by
  obtain ⟨cl, A, q, S, N, H, G⟩ := V
  obtain ⟨T', h', X', e', W, st⟩ := stI X hx hZ eT A (inb_of S hj) hg hs hd
  exact ⟨T', h', _, X', e', fun n0 F q => Fr.snoc X' F q, own_setA A q S N H G rfl W i hi hl, W, st⟩
theorem own_stB (X : Stand p l e R s m args below meth c T locs cells slots) (hx : p.tables.exec = Jvm.exec) (hZ : Z.Warmed39 s.vm) (eT : T.heap = h) (V : own_A Z h a k .byte n xs) {j x : Int32} (i : Nat) (hj : ¬ j < 0 ∧ j < n) (hi : j.toNatClampNeg = i) (hl : i < xs.length)
    {g : JFrame} (hg : g.method = m) {rest : List Value} (hs : g.stack = .int x :: .int j :: .ref a :: rest) (hd : decode c.code g.pc = .ok (.bastore, 1)) :
    ∃ T' h' L', Stand p l e R s m args below meth c T' L' cells slots ∧ T'.heap = h' ∧ (∀ n0, Fr n0 locs → n0 ≤ a → Fr n0 L') ∧ own_A Z h' a k .byte n (xs.set i (nar .byte x)) ∧ Wr h h' a j.toNatClampNeg (.int (nar .byte x)) ∧
      ∀ target, Steps p.tables e below (T'.setTop { g with pc := g.pc + 1, stack := rest }) target → Steps p.tables e below (T.setTop g) target := by
  obtain ⟨cl, A, q, S, N, H, G⟩ := V
  obtain ⟨T', h', X', e', W, st⟩ := stB X hx hZ eT A (inb_of S hj) hg hs hd
  exact ⟨T', h', _, X', e', fun n0 F q => Fr.snoc X' F q, own_setA A q S N H G (fits_nar_byte _) W i hi hl, W, st⟩
theorem own_stC (X : Stand p l e R s m args below meth c T locs cells slots) (hx : p.tables.exec = Jvm.exec) (hZ : Z.Warmed39 s.vm) (eT : T.heap = h) (V : own_A Z h a k .char n xs) {j x : Int32} (i : Nat) (hj : ¬ j < 0 ∧ j < n) (hi : j.toNatClampNeg = i) (hl : i < xs.length)
    {g : JFrame} (hg : g.method = m) {rest : List Value} (hs : g.stack = .int x :: .int j :: .ref a :: rest) (hd : decode c.code g.pc = .ok (.castore, 1)) :
    ∃ T' h' L', Stand p l e R s m args below meth c T' L' cells slots ∧ T'.heap = h' ∧ (∀ n0, Fr n0 locs → n0 ≤ a → Fr n0 L') ∧ own_A Z h' a k .char n (xs.set i (nar .char x)) ∧ Wr h h' a j.toNatClampNeg (.int (nar .char x)) ∧
      ∀ target, Steps p.tables e below (T'.setTop { g with pc := g.pc + 1, stack := rest }) target → Steps p.tables e below (T.setTop g) target := by
  obtain ⟨cl, A, q, S, N, H, G⟩ := V
  obtain ⟨T', h', X', e', W, st⟩ := stC X hx hZ eT A (inb_of S hj) hg hs hd
  exact ⟨T', h', _, X', e', fun n0 F q => Fr.snoc X' F q, own_setA A q S N H G (fits_nar_char _) W i hi hl, W, st⟩
theorem own_getA (V : own_A Z h a k ty n xs) {j : Int32} (hj : ¬ j < 0 ∧ j < n) : ∃ cl : Cell, Arr Z h a cl ty ∧ ¬ (j < 0 ∨ cl.slots.size ≤ j.toNatClampNeg) ∧ cl.slots[j.toNatClampNeg]? = some (.int (xs.getD j.toNatClampNeg 0)) := by
  obtain ⟨cl, A, q, S, N, H, G⟩ := V
  have hin := inb_of S hj
  refine ⟨cl, A, hin, ?_⟩
  rw [H _ (Nat.lt_of_not_le fun q => hin (Or.inr q))]
  simp only [List.getD_eq_getElem?_getD, List.getElem?_map]
  cases xs[j.toNatClampNeg]? <;> rfl
theorem own_ldI (X : Stand p l e R s m args below meth c T locs cells slots) (hx : p.tables.exec = Jvm.exec) (hZ : Z.Warmed39 s.vm) (eT : T.heap = h) (V : own_A Z h a k .int n xs) {j : Int32} (hj : ¬ j < 0 ∧ j < n)
    {g : JFrame} (hg : g.method = m) {rest : List Value} (hs : g.stack = .int j :: .ref a :: rest) (hd : decode c.code g.pc = .ok (.iaload, 1)) :
    ∀ target, Steps p.tables e below (T.setTop { g with pc := g.pc + 1, stack := .int (xs.getD j.toNatClampNeg 0) :: rest }) target → Steps p.tables e below (T.setTop g) target := by
  obtain ⟨cl, A, hin, hat⟩ := own_getA V hj
  exact X.iaload hx (by rw [eT]; exact A.1) (State.isArrayOf_alike hZ.alike A.2.1) A.2.2 hin hat hg hs hd
theorem own_ldB (X : Stand p l e R s m args below meth c T locs cells slots) (hx : p.tables.exec = Jvm.exec) (hZ : Z.Warmed39 s.vm) (eT : T.heap = h) (V : own_A Z h a k .byte n xs) {j : Int32} (hj : ¬ j < 0 ∧ j < n)
    {g : JFrame} (hg : g.method = m) {rest : List Value} (hs : g.stack = .int j :: .ref a :: rest) (hd : decode c.code g.pc = .ok (.baload, 1)) :
    ∀ target, Steps p.tables e below (T.setTop { g with pc := g.pc + 1, stack := .int (xs.getD j.toNatClampNeg 0) :: rest }) target → Steps p.tables e below (T.setTop g) target := by
  obtain ⟨cl, A, hin, hat⟩ := own_getA V hj
  exact X.baloadBytes hx (by rw [eT]; exact A.1) (State.isArrayOf_alike hZ.alike A.2.1) A.2.2 hin hat hg hs hd
theorem own_ldC (X : Stand p l e R s m args below meth c T locs cells slots) (hx : p.tables.exec = Jvm.exec) (hZ : Z.Warmed39 s.vm) (eT : T.heap = h) (V : own_A Z h a k .char n xs) {j : Int32} (hj : ¬ j < 0 ∧ j < n)
    {g : JFrame} (hg : g.method = m) {rest : List Value} (hs : g.stack = .int j :: .ref a :: rest) (hd : decode c.code g.pc = .ok (.caload, 1)) :
    ∀ target, Steps p.tables e below (T.setTop { g with pc := g.pc + 1, stack := .int (xs.getD j.toNatClampNeg 0) :: rest }) target → Steps p.tables e below (T.setTop g) target := by
  obtain ⟨cl, A, hin, hat⟩ := own_getA V hj
  exact X.caload hx (by rw [eT]; exact A.1) (State.isArrayOf_alike hZ.alike A.2.1) A.2.2 hin hat hg hs hd
end OwnArr
theorem own_rem32 (x y : Int32) : (x - x / y * y).toInt = x.toInt.tmod y.toInt := by
  have a := (x % y).toInt_lt; have b := (x % y).le_toInt
  rw [Int32.toInt_mod] at a b
  rw [Int32.toInt_sub, Int32.toInt_mul, Int32.toInt_div, Int.bmod_mul_bmod, Int.sub_bmod_bmod, Int.mul_comm, ← Int.tmod_def]
  exact Jvm.Kit.bmod32 b a
theorem own_rem32n {x y : Int32} (hx : 0 ≤ x.toInt) : (x - x / y * y).toInt = x.toInt % y.toInt := by rw [own_rem32, Int.tmod_eq_emod_of_nonneg hx]
theorem own_m31 (x : Int32) : 0 ≤ (x &&& (2147483647 : Int32)).toInt ∧ (x &&& (2147483647 : Int32)).toInt < 2147483648 := by
  rw [Jvm.Kit.i32_mask x 2147483647 (k := 31) (by decide) (by decide)]
  omega
def own_tb : List Int32 := [9, 10, 13, 32, 55295, 57344, 65533, 65536, 1114111, 0, -2147483648, 2147483647]
theorem own_nn (p : Int32) : ¬ ((p &&& (255 : Int32)) - (p &&& (255 : Int32)) / (16 : Int32) * (16 : Int32)) < 0 := by
  have e := Jvm.Kit.i32_mask p 255 (k := 8) (by decide) (by decide)
  rw [Int32.lt_iff_toInt_lt, own_rem32n (by omega), show (16 : Int32).toInt = 16 from rfl, show (0 : Int32).toInt = 0 from rfl]
  omega

theorem d1_0 : decode prog_142_method_9_code 0 = .ok (.iload_n 0, 1) := by decide +kernel
theorem d1_1 : decode prog_142_method_9_code 1 = .ok (.bipush 9, 2) := by decide +kernel
theorem d1_3 : decode prog_142_method_9_code 3 = .ok (.if_icmp .eq 51, 3) := by decide +kernel
theorem d1_6 : decode prog_142_method_9_code 6 = .ok (.iload_n 0, 1) := by decide +kernel
theorem d1_7 : decode prog_142_method_9_code 7 = .ok (.bipush 10, 2) := by decide +kernel
theorem d1_9 : decode prog_142_method_9_code 9 = .ok (.if_icmp .eq 45, 3) := by decide +kernel
theorem d1_12 : decode prog_142_method_9_code 12 = .ok (.iload_n 0, 1) := by decide +kernel
theorem d1_13 : decode prog_142_method_9_code 13 = .ok (.bipush 13, 2) := by decide +kernel
theorem d1_15 : decode prog_142_method_9_code 15 = .ok (.if_icmp .eq 39, 3) := by decide +kernel
theorem d1_18 : decode prog_142_method_9_code 18 = .ok (.iload_n 0, 1) := by decide +kernel
theorem d1_19 : decode prog_142_method_9_code 19 = .ok (.bipush 32, 2) := by decide +kernel
theorem d1_21 : decode prog_142_method_9_code 21 = .ok (.if_icmp .lt 9, 3) := by decide +kernel
theorem d1_24 : decode prog_142_method_9_code 24 = .ok (.iload_n 0, 1) := by decide +kernel
theorem d1_25 : decode prog_142_method_9_code 25 = .ok (.ldc 7, 2) := by decide +kernel
theorem d1_27 : decode prog_142_method_9_code 27 = .ok (.if_icmp .le 27, 3) := by decide +kernel
theorem d1_30 : decode prog_142_method_9_code 30 = .ok (.iload_n 0, 1) := by decide +kernel
theorem d1_31 : decode prog_142_method_9_code 31 = .ok (.ldc 78, 2) := by decide +kernel
theorem d1_33 : decode prog_142_method_9_code 33 = .ok (.if_icmp .lt 9, 3) := by decide +kernel
theorem d1_36 : decode prog_142_method_9_code 36 = .ok (.iload_n 0, 1) := by decide +kernel
theorem d1_37 : decode prog_142_method_9_code 37 = .ok (.ldc 11, 2) := by decide +kernel
theorem d1_39 : decode prog_142_method_9_code 39 = .ok (.if_icmp .le 15, 3) := by decide +kernel
theorem d1_42 : decode prog_142_method_9_code 42 = .ok (.iload_n 0, 1) := by decide +kernel
theorem d1_43 : decode prog_142_method_9_code 43 = .ok (.ldc 12, 2) := by decide +kernel
theorem d1_45 : decode prog_142_method_9_code 45 = .ok (.if_icmp .lt 13, 3) := by decide +kernel
theorem d1_48 : decode prog_142_method_9_code 48 = .ok (.iload_n 0, 1) := by decide +kernel
theorem d1_49 : decode prog_142_method_9_code 49 = .ok (.ldc 79, 2) := by decide +kernel
theorem d1_51 : decode prog_142_method_9_code 51 = .ok (.if_icmp .gt 7, 3) := by decide +kernel
theorem d1_54 : decode prog_142_method_9_code 54 = .ok (.iconst 1, 1) := by decide +kernel
theorem d1_55 : decode prog_142_method_9_code 55 = .ok (.goto 4, 3) := by decide +kernel
theorem d1_58 : decode prog_142_method_9_code 58 = .ok (.iconst 0, 1) := by decide +kernel
theorem d1_59 : decode prog_142_method_9_code 59 = .ok (.ireturn, 1) := by decide +kernel
theorem pn_1 : plainName "com/example/unnest/unnest/xml/XmlChars" = true := by first | (simp [plainName, overriddenIn]; done) | decide +kernel
theorem ef_1 (m : MethodId) (p0 : Int32) : entryFrame m #[(.int p0)] 1 = mkF m 0 #[.val (.int p0)] [] := by first | (simp [entryFrame, mkF, argsToLocals, Value.category]; done) | rfl
def own_f1_54 : Int32 :=
  (1 : Int32)
def own_f1_58 : Int32 :=
  (0 : Int32)
def own_f1_42 (p0 : Int32) : Int32 :=
  if p0 < (65536 : Int32) then
    (own_f1_58)
  else
    if (1114111 : Int32) < p0 then
      (own_f1_58)
    else
      (own_f1_54)
def own_f1_30 (p0 : Int32) : Int32 :=
  if p0 < (57344 : Int32) then
    (own_f1_42 p0)
  else
    if (65533 : Int32) < p0 then
      (own_f1_42 p0)
    else
      (own_f1_54)
def own_f1 (p0 : Int32) : Int32 :=
  if p0 = (9 : Int32) then
    (own_f1_54)
  else
    if p0 = (10 : Int32) then
      (own_f1_54)
    else
      if p0 = (13 : Int32) then
        (own_f1_54)
      else
        if p0 < (32 : Int32) then
          (own_f1_30 p0)
        else
          if (55295 : Int32) < p0 then
            (own_f1_30 p0)
          else
            (own_f1_54)
abbrev own_room1 : Room := { frames := 0, cells := 0, slots := 0, locals := 0 }
set_option maxRecDepth 65536 in
set_option maxHeartbeats 40000000 in
theorem rm1 (l : Launch) (Z : State) (a0 : Array Value) (hw : ∀ d ∈ tables_1, d.before a0 Z = true) (ws : List Jvm.Cond) (p0 : Int32) (h0 : Heap) (n0 : Nat) (Z0 : n0 ≤ h0.size) :
    MetFree l (⟨"com/example/unnest/unnest/xml/XmlChars", "isXmlChar", "(I)Z"⟩ : MethodName) (head1 (Jvm.Cond.code (⟨"com/example/unnest/unnest/xml/XmlChars", "isXmlChar", "(I)Z"⟩ : MethodName) prog_142_method_9_code 1 (some .boolean) :: ws) own_room1) (fun a U => a = #[(.int p0)] ∧ Z.Warmed39 U.vm ∧ U.heap = h0) (fun _ _ _ _ _ => True) (fun _ U o U' => ∃ v L, o = .returned v ∧ own_Qp (some (.int (own_f1 p0))) h0 v U'.heap L ∧ FrameEnd U o U' L own_room1.cells own_room1.slots) := by
  refine MetFree.of_bodySF (plainFor_of_name pn_1) hisR ?_
  intro p e s m args below meth c s₁ Bd hml0 hP hK
  obtain ⟨rfl, hZ, hh⟩ := hP
  have hx := Bd.exec
  have hby := Bd.bytes
  have hml : c.maxLocals = 1 := hml0
  have hown : s.vm.findClass "com/example/unnest/unnest/xml/XmlChars" = some m.cls := findClass_of_methodNamed Bd.named
  have hnm := (name_of_methodNamed Bd.named Bd.method).1
  have X0 : Stand p l e own_room1 s m #[(.int p0)] below meth c s₁ [] 0 0 := Stand.of_body Bd
  have e0 : s₁.heap = h0 := by rw [← hh, Bd.state]; rfl
  have N0 := Fr.nil n0
  refine own_enter (ef_1 m p0) ?_
  show own_Goes p.tables e below (s₁.setTop (mkF m 0 #[.val (.int p0)] [])) (own_P s (own_Qp (some (.int (own_f1 p0))) h0) own_room1.cells own_room1.slots)
  refine own_step (fun _ => XS.iloadN X0.here hx rfl (hb hby d1_0) rfl) ?_
  show own_Goes p.tables e below (s₁.setTop (mkF m 1 #[.val (.int p0)] [(.int p0)])) _
  refine own_step (fun _ => XS.bipush X0.here hx rfl (hb hby d1_1)) ?_
  show own_Goes p.tables e below (s₁.setTop (mkF m 3 #[.val (.int p0)] [(.int (9 : Int32)), (.int p0)])) _
  have J54 : ∀ (T_54 : State) (X_54 : Stand p l e own_room1 s m #[(.int p0)] below meth c T_54 [] 0 0) (e_54 : T_54.heap = h0), own_Goes p.tables e below (T_54.setTop (mkF m 54 #[.val (.int p0)] [])) (own_P s (own_Qp (some (.int (own_f1_54))) h0) own_room1.cells own_room1.slots) := by
    intro T_54 X_54 e_54
    refine own_step (fun _ => XS.iconst X_54.here hx rfl (hb hby d1_54)) ?_
    show own_Goes p.tables e below (T_54.setTop (mkF m 55 #[.val (.int p0)] [(.int (1 : Int32))])) _
    refine own_step (fun _ => XS.goto X_54.here hx rfl (pc0 := 55) (pc' := 59) rfl (hb hby d1_55) (by decide) (by decide)) ?_
    show own_Goes p.tables e below (T_54.setTop (mkF m 59 #[.val (.int p0)] [(.int (1 : Int32))])) _
    have hv : (own_f1_54) = (1 : Int32) := by exact rfl
    rw [hv]
    exact own_retN X_54 hx (t := .boolean) Bd.returns (by simp) (hb hby d1_59) (BodyLoose.notSynchronized Bd) (w := (1 : Int32)) rfl ⟨rfl, rfl, e_54⟩ (by decide) (by decide)
  by_cases hc3 : p0 = (9 : Int32)
  · refine own_step (fun _ => XS.icmpYes X0.here hx rfl (pc0 := 3) (pc' := 54) rfl (hb hby d1_3) rfl (Jvm.Free.XT.ii_eq_t hc3) (by decide) (by decide)) ?_
    show own_Goes p.tables e below (s₁.setTop (mkF m 54 #[.val (.int p0)] [])) _
    have hv : (own_f1 p0) = (own_f1_54) := by exact (if_pos hc3)
    rw [hv]
    exact J54 s₁ X0 e0
  · refine own_step (fun _ => XS.icmpNo X0.here hx rfl (hb hby d1_3) rfl (Jvm.Free.XT.ii_eq_f hc3)) ?_
    show own_Goes p.tables e below (s₁.setTop (mkF m 6 #[.val (.int p0)] [])) _
    refine own_step (fun _ => XS.iloadN X0.here hx rfl (hb hby d1_6) rfl) ?_
    show own_Goes p.tables e below (s₁.setTop (mkF m 7 #[.val (.int p0)] [(.int p0)])) _
    refine own_step (fun _ => XS.bipush X0.here hx rfl (hb hby d1_7)) ?_
    show own_Goes p.tables e below (s₁.setTop (mkF m 9 #[.val (.int p0)] [(.int (10 : Int32)), (.int p0)])) _
    by_cases hc9 : p0 = (10 : Int32)
    · refine own_step (fun _ => XS.icmpYes X0.here hx rfl (pc0 := 9) (pc' := 54) rfl (hb hby d1_9) rfl (Jvm.Free.XT.ii_eq_t hc9) (by decide) (by decide)) ?_
      show own_Goes p.tables e below (s₁.setTop (mkF m 54 #[.val (.int p0)] [])) _
      have hv : (own_f1 p0) = (own_f1_54) := by exact ((if_neg hc3)).trans (if_pos hc9)
      rw [hv]
      exact J54 s₁ X0 e0
    · refine own_step (fun _ => XS.icmpNo X0.here hx rfl (hb hby d1_9) rfl (Jvm.Free.XT.ii_eq_f hc9)) ?_
      show own_Goes p.tables e below (s₁.setTop (mkF m 12 #[.val (.int p0)] [])) _
      refine own_step (fun _ => XS.iloadN X0.here hx rfl (hb hby d1_12) rfl) ?_
      show own_Goes p.tables e below (s₁.setTop (mkF m 13 #[.val (.int p0)] [(.int p0)])) _
      refine own_step (fun _ => XS.bipush X0.here hx rfl (hb hby d1_13)) ?_
      show own_Goes p.tables e below (s₁.setTop (mkF m 15 #[.val (.int p0)] [(.int (13 : Int32)), (.int p0)])) _
      by_cases hc15 : p0 = (13 : Int32)
      · refine own_step (fun _ => XS.icmpYes X0.here hx rfl (pc0 := 15) (pc' := 54) rfl (hb hby d1_15) rfl (Jvm.Free.XT.ii_eq_t hc15) (by decide) (by decide)) ?_
        show own_Goes p.tables e below (s₁.setTop (mkF m 54 #[.val (.int p0)] [])) _
        have hv : (own_f1 p0) = (own_f1_54) := by exact (((if_neg hc3)).trans (if_neg hc9)).trans (if_pos hc15)
        rw [hv]
        exact J54 s₁ X0 e0
      · refine own_step (fun _ => XS.icmpNo X0.here hx rfl (hb hby d1_15) rfl (Jvm.Free.XT.ii_eq_f hc15)) ?_
        show own_Goes p.tables e below (s₁.setTop (mkF m 18 #[.val (.int p0)] [])) _
        refine own_step (fun _ => XS.iloadN X0.here hx rfl (hb hby d1_18) rfl) ?_
        show own_Goes p.tables e below (s₁.setTop (mkF m 19 #[.val (.int p0)] [(.int p0)])) _
        refine own_step (fun _ => XS.bipush X0.here hx rfl (hb hby d1_19)) ?_
        show own_Goes p.tables e below (s₁.setTop (mkF m 21 #[.val (.int p0)] [(.int (32 : Int32)), (.int p0)])) _
        have J30 : ∀ (T_30 : State) (X_30 : Stand p l e own_room1 s m #[(.int p0)] below meth c T_30 [] 0 0) (e_30 : T_30.heap = h0), own_Goes p.tables e below (T_30.setTop (mkF m 30 #[.val (.int p0)] [])) (own_P s (own_Qp (some (.int (own_f1_30 p0))) h0) own_room1.cells own_room1.slots) := by
          intro T_30 X_30 e_30
          refine own_step (fun _ => XS.iloadN X_30.here hx rfl (hb hby d1_30) rfl) ?_
          show own_Goes p.tables e below (T_30.setTop (mkF m 31 #[.val (.int p0)] [(.int p0)])) _
          refine own_step (X_30.ldcInt hx hown (mvT hZ (hw _ (List.mem_of_getElem? (i := 12) rfl))) (g := (mkF m 31 #[.val (.int p0)] [(.int p0)])) rfl (hb hby d1_31)) ?_
          show own_Goes p.tables e below (T_30.setTop (mkF m 33 #[.val (.int p0)] [(.int (57344 : Int32)), (.int p0)])) _
          have J42 : ∀ (T_42 : State) (X_42 : Stand p l e own_room1 s m #[(.int p0)] below meth c T_42 [] 0 0) (e_42 : T_42.heap = h0), own_Goes p.tables e below (T_42.setTop (mkF m 42 #[.val (.int p0)] [])) (own_P s (own_Qp (some (.int (own_f1_42 p0))) h0) own_room1.cells own_room1.slots) := by
            intro T_42 X_42 e_42
            refine own_step (fun _ => XS.iloadN X_42.here hx rfl (hb hby d1_42) rfl) ?_
            show own_Goes p.tables e below (T_42.setTop (mkF m 43 #[.val (.int p0)] [(.int p0)])) _
            refine own_step (X_42.ldcInt hx hown (mvT hZ (hw _ (List.mem_of_getElem? (i := 13) rfl))) (g := (mkF m 43 #[.val (.int p0)] [(.int p0)])) rfl (hb hby d1_43)) ?_
            show own_Goes p.tables e below (T_42.setTop (mkF m 45 #[.val (.int p0)] [(.int (65536 : Int32)), (.int p0)])) _
            have J58 : ∀ (T_58 : State) (X_58 : Stand p l e own_room1 s m #[(.int p0)] below meth c T_58 [] 0 0) (e_58 : T_58.heap = h0), own_Goes p.tables e below (T_58.setTop (mkF m 58 #[.val (.int p0)] [])) (own_P s (own_Qp (some (.int (own_f1_58))) h0) own_room1.cells own_room1.slots) := by
              intro T_58 X_58 e_58
              refine own_step (fun _ => XS.iconst X_58.here hx rfl (hb hby d1_58)) ?_
              show own_Goes p.tables e below (T_58.setTop (mkF m 59 #[.val (.int p0)] [(.int (0 : Int32))])) _
              have hv : (own_f1_58) = (0 : Int32) := by exact rfl
              rw [hv]
              exact own_retN X_58 hx (t := .boolean) Bd.returns (by simp) (hb hby d1_59) (BodyLoose.notSynchronized Bd) (w := (0 : Int32)) rfl ⟨rfl, rfl, e_58⟩ (by decide) (by decide)
            by_cases hc45 : p0 < (65536 : Int32)
            · refine own_step (fun _ => XS.icmpYes X_42.here hx rfl (pc0 := 45) (pc' := 58) rfl (hb hby d1_45) rfl (Jvm.Free.XT.ii_lt_t hc45) (by decide) (by decide)) ?_
              show own_Goes p.tables e below (T_42.setTop (mkF m 58 #[.val (.int p0)] [])) _
              have hv : (own_f1_42 p0) = (own_f1_58) := by exact (if_pos hc45)
              rw [hv]
              exact J58 T_42 X_42 e_42
            · refine own_step (fun _ => XS.icmpNo X_42.here hx rfl (hb hby d1_45) rfl (Jvm.Free.XT.ii_lt_f hc45)) ?_
              show own_Goes p.tables e below (T_42.setTop (mkF m 48 #[.val (.int p0)] [])) _
              refine own_step (fun _ => XS.iloadN X_42.here hx rfl (hb hby d1_48) rfl) ?_
              show own_Goes p.tables e below (T_42.setTop (mkF m 49 #[.val (.int p0)] [(.int p0)])) _
              refine own_step (X_42.ldcInt hx hown (mvT hZ (hw _ (List.mem_of_getElem? (i := 24) rfl))) (g := (mkF m 49 #[.val (.int p0)] [(.int p0)])) rfl (hb hby d1_49)) ?_
              show own_Goes p.tables e below (T_42.setTop (mkF m 51 #[.val (.int p0)] [(.int (1114111 : Int32)), (.int p0)])) _
              by_cases hc51 : (1114111 : Int32) < p0
              · refine own_step (fun _ => XS.icmpYes X_42.here hx rfl (pc0 := 51) (pc' := 58) rfl (hb hby d1_51) rfl (Jvm.Free.XT.ii_gt_t hc51) (by decide) (by decide)) ?_
                show own_Goes p.tables e below (T_42.setTop (mkF m 58 #[.val (.int p0)] [])) _
                have hv : (own_f1_42 p0) = (own_f1_58) := by exact ((if_neg hc45)).trans (if_pos hc51)
                rw [hv]
                exact J58 T_42 X_42 e_42
              · refine own_step (fun _ => XS.icmpNo X_42.here hx rfl (hb hby d1_51) rfl (Jvm.Free.XT.ii_gt_f hc51)) ?_
                show own_Goes p.tables e below (T_42.setTop (mkF m 54 #[.val (.int p0)] [])) _
                have hv : (own_f1_42 p0) = (own_f1_54) := by exact ((if_neg hc45)).trans (if_neg hc51)
                rw [hv]
                exact J54 T_42 X_42 e_42
          by_cases hc33 : p0 < (57344 : Int32)
          · refine own_step (fun _ => XS.icmpYes X_30.here hx rfl (pc0 := 33) (pc' := 42) rfl (hb hby d1_33) rfl (Jvm.Free.XT.ii_lt_t hc33) (by decide) (by decide)) ?_
            show own_Goes p.tables e below (T_30.setTop (mkF m 42 #[.val (.int p0)] [])) _
            have hv : (own_f1_30 p0) = (own_f1_42 p0) := by exact (if_pos hc33)
            rw [hv]
            exact J42 T_30 X_30 e_30
          · refine own_step (fun _ => XS.icmpNo X_30.here hx rfl (hb hby d1_33) rfl (Jvm.Free.XT.ii_lt_f hc33)) ?_
            show own_Goes p.tables e below (T_30.setTop (mkF m 36 #[.val (.int p0)] [])) _
            refine own_step (fun _ => XS.iloadN X_30.here hx rfl (hb hby d1_36) rfl) ?_
            show own_Goes p.tables e below (T_30.setTop (mkF m 37 #[.val (.int p0)] [(.int p0)])) _
            refine own_step (X_30.ldcInt hx hown (mvT hZ (hw _ (List.mem_of_getElem? (i := 23) rfl))) (g := (mkF m 37 #[.val (.int p0)] [(.int p0)])) rfl (hb hby d1_37)) ?_
            show own_Goes p.tables e below (T_30.setTop (mkF m 39 #[.val (.int p0)] [(.int (65533 : Int32)), (.int p0)])) _
            by_cases hc39 : (65533 : Int32) < p0
            · refine own_step (fun _ => XS.icmpNo X_30.here hx rfl (hb hby d1_39) rfl (Jvm.Free.XT.ii_le_f hc39)) ?_
              show own_Goes p.tables e below (T_30.setTop (mkF m 42 #[.val (.int p0)] [])) _
              have hv : (own_f1_30 p0) = (own_f1_42 p0) := by exact ((if_neg hc33)).trans (if_pos hc39)
              rw [hv]
              exact J42 T_30 X_30 e_30
            · refine own_step (fun _ => XS.icmpYes X_30.here hx rfl (pc0 := 39) (pc' := 54) rfl (hb hby d1_39) rfl (Jvm.Free.XT.ii_le_t hc39) (by decide) (by decide)) ?_
              show own_Goes p.tables e below (T_30.setTop (mkF m 54 #[.val (.int p0)] [])) _
              have hv : (own_f1_30 p0) = (own_f1_54) := by exact ((if_neg hc33)).trans (if_neg hc39)
              rw [hv]
              exact J54 T_30 X_30 e_30
        by_cases hc21 : p0 < (32 : Int32)
        · refine own_step (fun _ => XS.icmpYes X0.here hx rfl (pc0 := 21) (pc' := 30) rfl (hb hby d1_21) rfl (Jvm.Free.XT.ii_lt_t hc21) (by decide) (by decide)) ?_
          show own_Goes p.tables e below (s₁.setTop (mkF m 30 #[.val (.int p0)] [])) _
          have hv : (own_f1 p0) = (own_f1_30 p0) := by exact ((((if_neg hc3)).trans (if_neg hc9)).trans (if_neg hc15)).trans (if_pos hc21)
          rw [hv]
          exact J30 s₁ X0 e0
        · refine own_step (fun _ => XS.icmpNo X0.here hx rfl (hb hby d1_21) rfl (Jvm.Free.XT.ii_lt_f hc21)) ?_
          show own_Goes p.tables e below (s₁.setTop (mkF m 24 #[.val (.int p0)] [])) _
          refine own_step (fun _ => XS.iloadN X0.here hx rfl (hb hby d1_24) rfl) ?_
          show own_Goes p.tables e below (s₁.setTop (mkF m 25 #[.val (.int p0)] [(.int p0)])) _
          refine own_step (X0.ldcInt hx hown (mvT hZ (hw _ (List.mem_of_getElem? (i := 21) rfl))) (g := (mkF m 25 #[.val (.int p0)] [(.int p0)])) rfl (hb hby d1_25)) ?_
          show own_Goes p.tables e below (s₁.setTop (mkF m 27 #[.val (.int p0)] [(.int (55295 : Int32)), (.int p0)])) _
          by_cases hc27 : (55295 : Int32) < p0
          · refine own_step (fun _ => XS.icmpNo X0.here hx rfl (hb hby d1_27) rfl (Jvm.Free.XT.ii_le_f hc27)) ?_
            show own_Goes p.tables e below (s₁.setTop (mkF m 30 #[.val (.int p0)] [])) _
            have hv : (own_f1 p0) = (own_f1_30 p0) := by exact (((((if_neg hc3)).trans (if_neg hc9)).trans (if_neg hc15)).trans (if_neg hc21)).trans (if_pos hc27)
            rw [hv]
            exact J30 s₁ X0 e0
          · refine own_step (fun _ => XS.icmpYes X0.here hx rfl (pc0 := 27) (pc' := 54) rfl (hb hby d1_27) rfl (Jvm.Free.XT.ii_le_t hc27) (by decide) (by decide)) ?_
            show own_Goes p.tables e below (s₁.setTop (mkF m 54 #[.val (.int p0)] [])) _
            have hv : (own_f1 p0) = (own_f1_54) := by exact (((((if_neg hc3)).trans (if_neg hc9)).trans (if_neg hc15)).trans (if_neg hc21)).trans (if_neg hc27)
            rw [hv]
            exact J54 s₁ X0 e0
theorem d2_0 : decode method_2_code 0 = .ok (.iload_n 0, 1) := by decide +kernel
theorem d2_1 : decode method_2_code 1 = .ok (.ifCond .ge 5, 3) := by decide +kernel
theorem d2_4 : decode method_2_code 4 = .ok (.iconst 1, 1) := by decide +kernel
theorem d2_5 : decode method_2_code 5 = .ok (.ireturn, 1) := by decide +kernel
theorem d2_6 : decode method_2_code 6 = .ok (.iload_n 0, 1) := by decide +kernel
theorem d2_7 : decode method_2_code 7 = .ok (.ldc 7, 2) := by decide +kernel
theorem d2_9 : decode method_2_code 9 = .ok (.if_icmp .le 5, 3) := by decide +kernel
theorem d2_12 : decode method_2_code 12 = .ok (.iconst 1, 1) := by decide +kernel
theorem d2_13 : decode method_2_code 13 = .ok (.ireturn, 1) := by decide +kernel
theorem d2_14 : decode method_2_code 14 = .ok (.iload_n 0, 1) := by decide +kernel
theorem d2_15 : decode method_2_code 15 = .ok (.ldc 8, 2) := by decide +kernel
theorem d2_17 : decode method_2_code 17 = .ok (.if_icmp .lt 11, 3) := by decide +kernel
theorem d2_20 : decode method_2_code 20 = .ok (.iload_n 0, 1) := by decide +kernel
theorem d2_21 : decode method_2_code 21 = .ok (.ldc 9, 2) := by decide +kernel
theorem d2_23 : decode method_2_code 23 = .ok (.if_icmp .gt 5, 3) := by decide +kernel
theorem d2_26 : decode method_2_code 26 = .ok (.iconst 1, 1) := by decide +kernel
theorem d2_27 : decode method_2_code 27 = .ok (.ireturn, 1) := by decide +kernel
theorem d2_28 : decode method_2_code 28 = .ok (.iload_n 0, 1) := by decide +kernel
theorem d2_29 : decode method_2_code 29 = .ok (.ldc 10, 2) := by decide +kernel
theorem d2_31 : decode method_2_code 31 = .ok (.if_icmp .eq 9, 3) := by decide +kernel
theorem d2_34 : decode method_2_code 34 = .ok (.iload_n 0, 1) := by decide +kernel
theorem d2_35 : decode method_2_code 35 = .ok (.ldc 11, 2) := by decide +kernel
theorem d2_37 : decode method_2_code 37 = .ok (.if_icmp .ne 5, 3) := by decide +kernel
theorem d2_40 : decode method_2_code 40 = .ok (.iconst 1, 1) := by decide +kernel
theorem d2_41 : decode method_2_code 41 = .ok (.ireturn, 1) := by decide +kernel
theorem d2_42 : decode method_2_code 42 = .ok (.iload_n 0, 1) := by decide +kernel
theorem d2_43 : decode method_2_code 43 = .ok (.bipush 32, 2) := by decide +kernel
theorem d2_45 : decode method_2_code 45 = .ok (.if_icmp .ge 27, 3) := by decide +kernel
theorem d2_48 : decode method_2_code 48 = .ok (.iload_n 0, 1) := by decide +kernel
theorem d2_49 : decode method_2_code 49 = .ok (.bipush 9, 2) := by decide +kernel
theorem d2_51 : decode method_2_code 51 = .ok (.if_icmp .eq 19, 3) := by decide +kernel
theorem d2_54 : decode method_2_code 54 = .ok (.iload_n 0, 1) := by decide +kernel
theorem d2_55 : decode method_2_code 55 = .ok (.bipush 10, 2) := by decide +kernel
theorem d2_57 : decode method_2_code 57 = .ok (.if_icmp .eq 13, 3) := by decide +kernel
theorem d2_60 : decode method_2_code 60 = .ok (.iload_n 0, 1) := by decide +kernel
theorem d2_61 : decode method_2_code 61 = .ok (.bipush 13, 2) := by decide +kernel
theorem d2_63 : decode method_2_code 63 = .ok (.if_icmp .eq 7, 3) := by decide +kernel
theorem d2_66 : decode method_2_code 66 = .ok (.iconst 1, 1) := by decide +kernel
theorem d2_67 : decode method_2_code 67 = .ok (.goto 4, 3) := by decide +kernel
theorem d2_70 : decode method_2_code 70 = .ok (.iconst 0, 1) := by decide +kernel
theorem d2_71 : decode method_2_code 71 = .ok (.ireturn, 1) := by decide +kernel
theorem d2_72 : decode method_2_code 72 = .ok (.iconst 0, 1) := by decide +kernel
theorem d2_73 : decode method_2_code 73 = .ok (.ireturn, 1) := by decide +kernel
theorem pn_2 : plainName "com/example/unnest/unnest/xml/XmlCharsIsXmlCharPinLaw" = true := by first | (simp [plainName, overriddenIn]; done) | decide +kernel
theorem ef_2 (m : MethodId) (p0 : Int32) : entryFrame m #[(.int p0)] 1 = mkF m 0 #[.val (.int p0)] [] := by first | (simp [entryFrame, mkF, argsToLocals, Value.category]; done) | rfl
def own_f2_40 : Int32 :=
  (1 : Int32)
def own_f2_70 : Int32 :=
  (0 : Int32)
def own_f2_28 (p0 : Int32) : Int32 :=
  if p0 = (65534 : Int32) then
    (own_f2_40)
  else
    if p0 = (65535 : Int32) then
      (own_f2_40)
    else
      if p0 < (32 : Int32) then
        if p0 = (9 : Int32) then
          (own_f2_70)
        else
          if p0 = (10 : Int32) then
            (own_f2_70)
          else
            if p0 = (13 : Int32) then
              (own_f2_70)
            else
              (1 : Int32)
      else
        (0 : Int32)
def own_f2 (p0 : Int32) : Int32 :=
  if p0 < 0 then
    (1 : Int32)
  else
    if (1114111 : Int32) < p0 then
      (1 : Int32)
    else
      if p0 < (55296 : Int32) then
        (own_f2_28 p0)
      else
        if (57343 : Int32) < p0 then
          (own_f2_28 p0)
        else
          (1 : Int32)
abbrev own_room2 : Room := { frames := 0, cells := 0, slots := 0, locals := 0 }
set_option maxRecDepth 65536 in
set_option maxHeartbeats 40000000 in
theorem rm2 (l : Launch) (Z : State) (a0 : Array Value) (hw : ∀ d ∈ tables_1, d.before a0 Z = true) (ws : List Jvm.Cond) (p0 : Int32) (h0 : Heap) (n0 : Nat) (Z0 : n0 ≤ h0.size) :
    MetFree l (⟨"com/example/unnest/unnest/xml/XmlCharsIsXmlCharPinLaw", "excluded", "(I)Z"⟩ : MethodName) (head1 (Jvm.Cond.code (⟨"com/example/unnest/unnest/xml/XmlCharsIsXmlCharPinLaw", "excluded", "(I)Z"⟩ : MethodName) method_2_code 1 (some .boolean) :: ws) own_room2) (fun a U => a = #[(.int p0)] ∧ Z.Warmed39 U.vm ∧ U.heap = h0) (fun _ _ _ _ _ => True) (fun _ U o U' => ∃ v L, o = .returned v ∧ own_Qp (some (.int (own_f2 p0))) h0 v U'.heap L ∧ FrameEnd U o U' L own_room2.cells own_room2.slots) := by
  refine MetFree.of_bodySF (plainFor_of_name pn_2) hisR ?_
  intro p e s m args below meth c s₁ Bd hml0 hP hK
  obtain ⟨rfl, hZ, hh⟩ := hP
  have hx := Bd.exec
  have hby := Bd.bytes
  have hml : c.maxLocals = 1 := hml0
  have hown : s.vm.findClass "com/example/unnest/unnest/xml/XmlCharsIsXmlCharPinLaw" = some m.cls := findClass_of_methodNamed Bd.named
  have hnm := (name_of_methodNamed Bd.named Bd.method).1
  have X0 : Stand p l e own_room2 s m #[(.int p0)] below meth c s₁ [] 0 0 := Stand.of_body Bd
  have e0 : s₁.heap = h0 := by rw [← hh, Bd.state]; rfl
  have N0 := Fr.nil n0
  refine own_enter (ef_2 m p0) ?_
  show own_Goes p.tables e below (s₁.setTop (mkF m 0 #[.val (.int p0)] [])) (own_P s (own_Qp (some (.int (own_f2 p0))) h0) own_room2.cells own_room2.slots)
  refine own_step (fun _ => XS.iloadN X0.here hx rfl (hb hby d2_0) rfl) ?_
  show own_Goes p.tables e below (s₁.setTop (mkF m 1 #[.val (.int p0)] [(.int p0)])) _
  by_cases hc1 : p0 < 0
  · refine own_step (fun _ => XS.ifNo X0.here hx rfl (hb hby d2_1) rfl (Jvm.Free.XT.i0_ge_f hc1)) ?_
    show own_Goes p.tables e below (s₁.setTop (mkF m 4 #[.val (.int p0)] [])) _
    refine own_step (fun _ => XS.iconst X0.here hx rfl (hb hby d2_4)) ?_
    show own_Goes p.tables e below (s₁.setTop (mkF m 5 #[.val (.int p0)] [(.int (1 : Int32))])) _
    have hv : (own_f2 p0) = (1 : Int32) := by exact (if_pos hc1)
    rw [hv]
    exact own_retN X0 hx (t := .boolean) Bd.returns (by simp) (hb hby d2_5) (BodyLoose.notSynchronized Bd) (w := (1 : Int32)) rfl ⟨rfl, rfl, e0⟩ (by decide) (by decide)
  · refine own_step (fun _ => XS.ifYes X0.here hx rfl (pc0 := 1) (pc' := 6) rfl (hb hby d2_1) rfl (Jvm.Free.XT.i0_ge_t hc1) (by decide) (by decide)) ?_
    show own_Goes p.tables e below (s₁.setTop (mkF m 6 #[.val (.int p0)] [])) _
    refine own_step (fun _ => XS.iloadN X0.here hx rfl (hb hby d2_6) rfl) ?_
    show own_Goes p.tables e below (s₁.setTop (mkF m 7 #[.val (.int p0)] [(.int p0)])) _
    refine own_step (X0.ldcInt hx hown (mvT hZ (hw _ (List.mem_of_getElem? (i := 5) rfl))) (g := (mkF m 7 #[.val (.int p0)] [(.int p0)])) rfl (hb hby d2_7)) ?_
    show own_Goes p.tables e below (s₁.setTop (mkF m 9 #[.val (.int p0)] [(.int (1114111 : Int32)), (.int p0)])) _
    by_cases hc9 : (1114111 : Int32) < p0
    · refine own_step (fun _ => XS.icmpNo X0.here hx rfl (hb hby d2_9) rfl (Jvm.Free.XT.ii_le_f hc9)) ?_
      show own_Goes p.tables e below (s₁.setTop (mkF m 12 #[.val (.int p0)] [])) _
      refine own_step (fun _ => XS.iconst X0.here hx rfl (hb hby d2_12)) ?_
      show own_Goes p.tables e below (s₁.setTop (mkF m 13 #[.val (.int p0)] [(.int (1 : Int32))])) _
      have hv : (own_f2 p0) = (1 : Int32) := by exact ((if_neg hc1)).trans (if_pos hc9)
      rw [hv]
      exact own_retN X0 hx (t := .boolean) Bd.returns (by simp) (hb hby d2_13) (BodyLoose.notSynchronized Bd) (w := (1 : Int32)) rfl ⟨rfl, rfl, e0⟩ (by decide) (by decide)
    · refine own_step (fun _ => XS.icmpYes X0.here hx rfl (pc0 := 9) (pc' := 14) rfl (hb hby d2_9) rfl (Jvm.Free.XT.ii_le_t hc9) (by decide) (by decide)) ?_
      show own_Goes p.tables e below (s₁.setTop (mkF m 14 #[.val (.int p0)] [])) _
      refine own_step (fun _ => XS.iloadN X0.here hx rfl (hb hby d2_14) rfl) ?_
      show own_Goes p.tables e below (s₁.setTop (mkF m 15 #[.val (.int p0)] [(.int p0)])) _
      refine own_step (X0.ldcInt hx hown (mvT hZ (hw _ (List.mem_of_getElem? (i := 18) rfl))) (g := (mkF m 15 #[.val (.int p0)] [(.int p0)])) rfl (hb hby d2_15)) ?_
      show own_Goes p.tables e below (s₁.setTop (mkF m 17 #[.val (.int p0)] [(.int (55296 : Int32)), (.int p0)])) _
      have J28 : ∀ (T_28 : State) (X_28 : Stand p l e own_room2 s m #[(.int p0)] below meth c T_28 [] 0 0) (e_28 : T_28.heap = h0), own_Goes p.tables e below (T_28.setTop (mkF m 28 #[.val (.int p0)] [])) (own_P s (own_Qp (some (.int (own_f2_28 p0))) h0) own_room2.cells own_room2.slots) := by
        intro T_28 X_28 e_28
        refine own_step (fun _ => XS.iloadN X_28.here hx rfl (hb hby d2_28) rfl) ?_
        show own_Goes p.tables e below (T_28.setTop (mkF m 29 #[.val (.int p0)] [(.int p0)])) _
        refine own_step (X_28.ldcInt hx hown (mvT hZ (hw _ (List.mem_of_getElem? (i := 19) rfl))) (g := (mkF m 29 #[.val (.int p0)] [(.int p0)])) rfl (hb hby d2_29)) ?_
        show own_Goes p.tables e below (T_28.setTop (mkF m 31 #[.val (.int p0)] [(.int (65534 : Int32)), (.int p0)])) _
        have J40 : ∀ (T_40 : State) (X_40 : Stand p l e own_room2 s m #[(.int p0)] below meth c T_40 [] 0 0) (e_40 : T_40.heap = h0), own_Goes p.tables e below (T_40.setTop (mkF m 40 #[.val (.int p0)] [])) (own_P s (own_Qp (some (.int (own_f2_40))) h0) own_room2.cells own_room2.slots) := by
          intro T_40 X_40 e_40
          refine own_step (fun _ => XS.iconst X_40.here hx rfl (hb hby d2_40)) ?_
          show own_Goes p.tables e below (T_40.setTop (mkF m 41 #[.val (.int p0)] [(.int (1 : Int32))])) _
          have hv : (own_f2_40) = (1 : Int32) := by exact rfl
          rw [hv]
          exact own_retN X_40 hx (t := .boolean) Bd.returns (by simp) (hb hby d2_41) (BodyLoose.notSynchronized Bd) (w := (1 : Int32)) rfl ⟨rfl, rfl, e_40⟩ (by decide) (by decide)
        by_cases hc31 : p0 = (65534 : Int32)
        · refine own_step (fun _ => XS.icmpYes X_28.here hx rfl (pc0 := 31) (pc' := 40) rfl (hb hby d2_31) rfl (Jvm.Free.XT.ii_eq_t hc31) (by decide) (by decide)) ?_
          show own_Goes p.tables e below (T_28.setTop (mkF m 40 #[.val (.int p0)] [])) _
          have hv : (own_f2_28 p0) = (own_f2_40) := by exact (if_pos hc31)
          rw [hv]
          exact J40 T_28 X_28 e_28
        · refine own_step (fun _ => XS.icmpNo X_28.here hx rfl (hb hby d2_31) rfl (Jvm.Free.XT.ii_eq_f hc31)) ?_
          show own_Goes p.tables e below (T_28.setTop (mkF m 34 #[.val (.int p0)] [])) _
          refine own_step (fun _ => XS.iloadN X_28.here hx rfl (hb hby d2_34) rfl) ?_
          show own_Goes p.tables e below (T_28.setTop (mkF m 35 #[.val (.int p0)] [(.int p0)])) _
          refine own_step (X_28.ldcInt hx hown (mvT hZ (hw _ (List.mem_of_getElem? (i := 20) rfl))) (g := (mkF m 35 #[.val (.int p0)] [(.int p0)])) rfl (hb hby d2_35)) ?_
          show own_Goes p.tables e below (T_28.setTop (mkF m 37 #[.val (.int p0)] [(.int (65535 : Int32)), (.int p0)])) _
          by_cases hc37 : p0 = (65535 : Int32)
          · refine own_step (fun _ => XS.icmpNo X_28.here hx rfl (hb hby d2_37) rfl (Jvm.Free.XT.ii_ne_f hc37)) ?_
            show own_Goes p.tables e below (T_28.setTop (mkF m 40 #[.val (.int p0)] [])) _
            have hv : (own_f2_28 p0) = (own_f2_40) := by exact ((if_neg hc31)).trans (if_pos hc37)
            rw [hv]
            exact J40 T_28 X_28 e_28
          · refine own_step (fun _ => XS.icmpYes X_28.here hx rfl (pc0 := 37) (pc' := 42) rfl (hb hby d2_37) rfl (Jvm.Free.XT.ii_ne_t hc37) (by decide) (by decide)) ?_
            show own_Goes p.tables e below (T_28.setTop (mkF m 42 #[.val (.int p0)] [])) _
            refine own_step (fun _ => XS.iloadN X_28.here hx rfl (hb hby d2_42) rfl) ?_
            show own_Goes p.tables e below (T_28.setTop (mkF m 43 #[.val (.int p0)] [(.int p0)])) _
            refine own_step (fun _ => XS.bipush X_28.here hx rfl (hb hby d2_43)) ?_
            show own_Goes p.tables e below (T_28.setTop (mkF m 45 #[.val (.int p0)] [(.int (32 : Int32)), (.int p0)])) _
            by_cases hc45 : p0 < (32 : Int32)
            · refine own_step (fun _ => XS.icmpNo X_28.here hx rfl (hb hby d2_45) rfl (Jvm.Free.XT.ii_ge_f hc45)) ?_
              show own_Goes p.tables e below (T_28.setTop (mkF m 48 #[.val (.int p0)] [])) _
              refine own_step (fun _ => XS.iloadN X_28.here hx rfl (hb hby d2_48) rfl) ?_
              show own_Goes p.tables e below (T_28.setTop (mkF m 49 #[.val (.int p0)] [(.int p0)])) _
              refine own_step (fun _ => XS.bipush X_28.here hx rfl (hb hby d2_49)) ?_
              show own_Goes p.tables e below (T_28.setTop (mkF m 51 #[.val (.int p0)] [(.int (9 : Int32)), (.int p0)])) _
              have J70 : ∀ (T_70 : State) (X_70 : Stand p l e own_room2 s m #[(.int p0)] below meth c T_70 [] 0 0) (e_70 : T_70.heap = h0), own_Goes p.tables e below (T_70.setTop (mkF m 70 #[.val (.int p0)] [])) (own_P s (own_Qp (some (.int (own_f2_70))) h0) own_room2.cells own_room2.slots) := by
                intro T_70 X_70 e_70
                refine own_step (fun _ => XS.iconst X_70.here hx rfl (hb hby d2_70)) ?_
                show own_Goes p.tables e below (T_70.setTop (mkF m 71 #[.val (.int p0)] [(.int (0 : Int32))])) _
                have hv : (own_f2_70) = (0 : Int32) := by exact rfl
                rw [hv]
                exact own_retN X_70 hx (t := .boolean) Bd.returns (by simp) (hb hby d2_71) (BodyLoose.notSynchronized Bd) (w := (0 : Int32)) rfl ⟨rfl, rfl, e_70⟩ (by decide) (by decide)
              by_cases hc51 : p0 = (9 : Int32)
              · refine own_step (fun _ => XS.icmpYes X_28.here hx rfl (pc0 := 51) (pc' := 70) rfl (hb hby d2_51) rfl (Jvm.Free.XT.ii_eq_t hc51) (by decide) (by decide)) ?_
                show own_Goes p.tables e below (T_28.setTop (mkF m 70 #[.val (.int p0)] [])) _
                have hv : (own_f2_28 p0) = (own_f2_70) := by exact ((((if_neg hc31)).trans (if_neg hc37)).trans (if_pos hc45)).trans (if_pos hc51)
                rw [hv]
                exact J70 T_28 X_28 e_28
              · refine own_step (fun _ => XS.icmpNo X_28.here hx rfl (hb hby d2_51) rfl (Jvm.Free.XT.ii_eq_f hc51)) ?_
                show own_Goes p.tables e below (T_28.setTop (mkF m 54 #[.val (.int p0)] [])) _
                refine own_step (fun _ => XS.iloadN X_28.here hx rfl (hb hby d2_54) rfl) ?_
                show own_Goes p.tables e below (T_28.setTop (mkF m 55 #[.val (.int p0)] [(.int p0)])) _
                refine own_step (fun _ => XS.bipush X_28.here hx rfl (hb hby d2_55)) ?_
                show own_Goes p.tables e below (T_28.setTop (mkF m 57 #[.val (.int p0)] [(.int (10 : Int32)), (.int p0)])) _
                by_cases hc57 : p0 = (10 : Int32)
                · refine own_step (fun _ => XS.icmpYes X_28.here hx rfl (pc0 := 57) (pc' := 70) rfl (hb hby d2_57) rfl (Jvm.Free.XT.ii_eq_t hc57) (by decide) (by decide)) ?_
                  show own_Goes p.tables e below (T_28.setTop (mkF m 70 #[.val (.int p0)] [])) _
                  have hv : (own_f2_28 p0) = (own_f2_70) := by exact (((((if_neg hc31)).trans (if_neg hc37)).trans (if_pos hc45)).trans (if_neg hc51)).trans (if_pos hc57)
                  rw [hv]
                  exact J70 T_28 X_28 e_28
                · refine own_step (fun _ => XS.icmpNo X_28.here hx rfl (hb hby d2_57) rfl (Jvm.Free.XT.ii_eq_f hc57)) ?_
                  show own_Goes p.tables e below (T_28.setTop (mkF m 60 #[.val (.int p0)] [])) _
                  refine own_step (fun _ => XS.iloadN X_28.here hx rfl (hb hby d2_60) rfl) ?_
                  show own_Goes p.tables e below (T_28.setTop (mkF m 61 #[.val (.int p0)] [(.int p0)])) _
                  refine own_step (fun _ => XS.bipush X_28.here hx rfl (hb hby d2_61)) ?_
                  show own_Goes p.tables e below (T_28.setTop (mkF m 63 #[.val (.int p0)] [(.int (13 : Int32)), (.int p0)])) _
                  by_cases hc63 : p0 = (13 : Int32)
                  · refine own_step (fun _ => XS.icmpYes X_28.here hx rfl (pc0 := 63) (pc' := 70) rfl (hb hby d2_63) rfl (Jvm.Free.XT.ii_eq_t hc63) (by decide) (by decide)) ?_
                    show own_Goes p.tables e below (T_28.setTop (mkF m 70 #[.val (.int p0)] [])) _
                    have hv : (own_f2_28 p0) = (own_f2_70) := by exact ((((((if_neg hc31)).trans (if_neg hc37)).trans (if_pos hc45)).trans (if_neg hc51)).trans (if_neg hc57)).trans (if_pos hc63)
                    rw [hv]
                    exact J70 T_28 X_28 e_28
                  · refine own_step (fun _ => XS.icmpNo X_28.here hx rfl (hb hby d2_63) rfl (Jvm.Free.XT.ii_eq_f hc63)) ?_
                    show own_Goes p.tables e below (T_28.setTop (mkF m 66 #[.val (.int p0)] [])) _
                    refine own_step (fun _ => XS.iconst X_28.here hx rfl (hb hby d2_66)) ?_
                    show own_Goes p.tables e below (T_28.setTop (mkF m 67 #[.val (.int p0)] [(.int (1 : Int32))])) _
                    refine own_step (fun _ => XS.goto X_28.here hx rfl (pc0 := 67) (pc' := 71) rfl (hb hby d2_67) (by decide) (by decide)) ?_
                    show own_Goes p.tables e below (T_28.setTop (mkF m 71 #[.val (.int p0)] [(.int (1 : Int32))])) _
                    have hv : (own_f2_28 p0) = (1 : Int32) := by exact ((((((if_neg hc31)).trans (if_neg hc37)).trans (if_pos hc45)).trans (if_neg hc51)).trans (if_neg hc57)).trans (if_neg hc63)
                    rw [hv]
                    exact own_retN X_28 hx (t := .boolean) Bd.returns (by simp) (hb hby d2_71) (BodyLoose.notSynchronized Bd) (w := (1 : Int32)) rfl ⟨rfl, rfl, e_28⟩ (by decide) (by decide)
            · refine own_step (fun _ => XS.icmpYes X_28.here hx rfl (pc0 := 45) (pc' := 72) rfl (hb hby d2_45) rfl (Jvm.Free.XT.ii_ge_t hc45) (by decide) (by decide)) ?_
              show own_Goes p.tables e below (T_28.setTop (mkF m 72 #[.val (.int p0)] [])) _
              refine own_step (fun _ => XS.iconst X_28.here hx rfl (hb hby d2_72)) ?_
              show own_Goes p.tables e below (T_28.setTop (mkF m 73 #[.val (.int p0)] [(.int (0 : Int32))])) _
              have hv : (own_f2_28 p0) = (0 : Int32) := by exact (((if_neg hc31)).trans (if_neg hc37)).trans (if_neg hc45)
              rw [hv]
              exact own_retN X_28 hx (t := .boolean) Bd.returns (by simp) (hb hby d2_73) (BodyLoose.notSynchronized Bd) (w := (0 : Int32)) rfl ⟨rfl, rfl, e_28⟩ (by decide) (by decide)
      by_cases hc17 : p0 < (55296 : Int32)
      · refine own_step (fun _ => XS.icmpYes X0.here hx rfl (pc0 := 17) (pc' := 28) rfl (hb hby d2_17) rfl (Jvm.Free.XT.ii_lt_t hc17) (by decide) (by decide)) ?_
        show own_Goes p.tables e below (s₁.setTop (mkF m 28 #[.val (.int p0)] [])) _
        have hv : (own_f2 p0) = (own_f2_28 p0) := by exact (((if_neg hc1)).trans (if_neg hc9)).trans (if_pos hc17)
        rw [hv]
        exact J28 s₁ X0 e0
      · refine own_step (fun _ => XS.icmpNo X0.here hx rfl (hb hby d2_17) rfl (Jvm.Free.XT.ii_lt_f hc17)) ?_
        show own_Goes p.tables e below (s₁.setTop (mkF m 20 #[.val (.int p0)] [])) _
        refine own_step (fun _ => XS.iloadN X0.here hx rfl (hb hby d2_20) rfl) ?_
        show own_Goes p.tables e below (s₁.setTop (mkF m 21 #[.val (.int p0)] [(.int p0)])) _
        refine own_step (X0.ldcInt hx hown (mvT hZ (hw _ (List.mem_of_getElem? (i := 22) rfl))) (g := (mkF m 21 #[.val (.int p0)] [(.int p0)])) rfl (hb hby d2_21)) ?_
        show own_Goes p.tables e below (s₁.setTop (mkF m 23 #[.val (.int p0)] [(.int (57343 : Int32)), (.int p0)])) _
        by_cases hc23 : (57343 : Int32) < p0
        · refine own_step (fun _ => XS.icmpYes X0.here hx rfl (pc0 := 23) (pc' := 28) rfl (hb hby d2_23) rfl (Jvm.Free.XT.ii_gt_t hc23) (by decide) (by decide)) ?_
          show own_Goes p.tables e below (s₁.setTop (mkF m 28 #[.val (.int p0)] [])) _
          have hv : (own_f2 p0) = (own_f2_28 p0) := by exact ((((if_neg hc1)).trans (if_neg hc9)).trans (if_neg hc17)).trans (if_pos hc23)
          rw [hv]
          exact J28 s₁ X0 e0
        · refine own_step (fun _ => XS.icmpNo X0.here hx rfl (hb hby d2_23) rfl (Jvm.Free.XT.ii_gt_f hc23)) ?_
          show own_Goes p.tables e below (s₁.setTop (mkF m 26 #[.val (.int p0)] [])) _
          refine own_step (fun _ => XS.iconst X0.here hx rfl (hb hby d2_26)) ?_
          show own_Goes p.tables e below (s₁.setTop (mkF m 27 #[.val (.int p0)] [(.int (1 : Int32))])) _
          have hv : (own_f2 p0) = (1 : Int32) := by exact ((((if_neg hc1)).trans (if_neg hc9)).trans (if_neg hc17)).trans (if_neg hc23)
          rw [hv]
          exact own_retN X0 hx (t := .boolean) Bd.returns (by simp) (hb hby d2_27) (BodyLoose.notSynchronized Bd) (w := (1 : Int32)) rfl ⟨rfl, rfl, e0⟩ (by decide) (by decide)
theorem pn_0 : plainName "com/example/unnest/unnest/xml/XmlCharsIsXmlCharPinLaw" = true := by first | (simp [plainName, overriddenIn]; done) | decide +kernel
theorem pd_0_0 : parseMethodDescriptor "(I)Z" = some ⟨[.int], some .boolean⟩ := by decide +kernel
theorem ef_0 (m : MethodId) (p0 : Int32) (p1 : Int32) : entryFrame m #[(.int p0), (.int p1)] maxLocals = mkF m 0 #[.val (.int p0), .val (.int p1), .unset, .unset, .unset] [] := by first | (simp [entryFrame, mkF, argsToLocals, Value.category, maxLocals]; done) | rfl
def own_f0_124 (v106_l4 : Int32) (v124_t0 : Int32) : Int32 :=
  if (own_f1 v106_l4) = v124_t0 then
    (1 : Int32)
  else
    (0 : Int32)
def own_f0_106 (v106_l4 : Int32) : Int32 :=
  if (own_f2 v106_l4) = 0 then
    (own_f0_124 v106_l4 (1 : Int32))
  else
    (own_f0_124 v106_l4 (0 : Int32))
def own_f0 (p0 : Int32) (p1 : Int32) : Int32 :=
  let z78 : Int32 := ((p1 &&& (255 : Int32)) - (p1 &&& (255 : Int32)) / (16 : Int32) * (16 : Int32))
  if z78 < (12 : Int32) then
    let z104 : Int32 := ((own_tb.getD z78.toNatClampNeg 0) + (((p1 >>> ((8 : Int32) &&& 31)) &&& (7 : Int32)) - (3 : Int32)))
    (own_f0_106 z104)
  else
    (own_f0_106 p0)
set_option maxRecDepth 65536 in
set_option maxHeartbeats 40000000 in
theorem rm0 (l : Launch) (Z : State) (a0 : Array Value) (hw : ∀ d ∈ tables_1, d.before a0 Z = true) (ws : List Jvm.Cond) (p0 : Int32) (p1 : Int32) (h0 : Heap) (n0 : Nat) (Z0 : n0 ≤ h0.size) :
    MetFree l x (head1 (Jvm.Cond.code x code maxLocals ret :: ws) room_1) (fun a U => a = #[(.int p0), (.int p1)] ∧ Z.Warmed39 U.vm ∧ U.heap = h0) (fun _ _ _ _ _ => True) (fun _ U o U' => ∃ v L, o = .returned v ∧ own_Ql (some (.int (own_f0 p0 p1))) n0 v U'.heap L ∧ FrameEnd U o U' L 1 12) := by
  refine MetFree.of_bodySF (plainFor_of_name pn_0) hisR ?_
  intro p e s m args below meth c s₁ Bd hml0 hP hK
  obtain ⟨rfl, hZ, hh⟩ := hP
  have hx := Bd.exec
  have hby := Bd.bytes
  have hml : c.maxLocals = 5 := hml0
  have hown : s.vm.findClass "com/example/unnest/unnest/xml/XmlCharsIsXmlCharPinLaw" = some m.cls := findClass_of_methodNamed Bd.named
  have hnm := (name_of_methodNamed Bd.named Bd.method).1
  have X0 : Stand p l e room_1 s m #[(.int p0), (.int p1)] below meth c s₁ [] 0 0 := Stand.of_body Bd
  have e0 : s₁.heap = h0 := by rw [← hh, Bd.state]; rfl
  have N0 := Fr.nil n0
  refine own_enter (ef_0 m p0 p1) ?_
  show own_Goes p.tables e below (s₁.setTop (mkF m 0 #[.val (.int p0), .val (.int p1), .unset, .unset, .unset] [])) (own_P s (own_Ql (some (.int (own_f0 p0 p1))) n0) 1 12)
  refine own_step (fun _ => XS.bipush X0.here hx rfl (hb hby at_0)) ?_
  show own_Goes p.tables e below (s₁.setTop (mkF m 2 #[.val (.int p0), .val (.int p1), .unset, .unset, .unset] [(.int (12 : Int32))])) _
  obtain ⟨T1, h1, b2, k1, X1, e1, E1, g1, V1, st1⟩ := own_newA X0 hx hZ (hw _ (List.mem_of_getElem? (i := 0) rfl)) e0 (g := (mkF m 2 #[.val (.int p0), .val (.int p1), .unset, .unset, .unset] [(.int (12 : Int32))])) rfl (hb hby at_2) rfl 12 (by decide) (by decide) (by decide) (by decide) (by decide) rfl
  have g_b2 : n0 ≤ b2 := Nat.le_trans Z0 (Nat.le_of_eq g1.symm)
  have sz_b2 : h0.size ≤ b2 := Nat.le_trans (Keep.refl h0 []).1 (Nat.le_of_eq g1.symm)
  have K1 : Keep h0 h1 [] := (Keep.refl h0 []).ext E1
  have Z1 : n0 ≤ h1.size := Nat.le_trans Z0 E1.1
  have V1 : own_A Z h1 b2 k1 .int (12 : Int32) [(0 : Int32), (0 : Int32), (0 : Int32), (0 : Int32), (0 : Int32), (0 : Int32), (0 : Int32), (0 : Int32), (0 : Int32), (0 : Int32), (0 : Int32), (0 : Int32)] := V1
  refine own_step (st1) ?_
  show own_Goes p.tables e below (T1.setTop (mkF m 4 #[.val (.int p0), .val (.int p1), .unset, .unset, .unset] [(.ref b2)])) _
  refine own_step (fun _ => XS.dup X1.here hx rfl (hb hby at_4) rfl rfl) ?_
  show own_Goes p.tables e below (T1.setTop (mkF m 5 #[.val (.int p0), .val (.int p1), .unset, .unset, .unset] [(.ref b2), (.ref b2)])) _
  refine own_step (fun _ => XS.iconst X1.here hx rfl (hb hby at_5)) ?_
  show own_Goes p.tables e below (T1.setTop (mkF m 6 #[.val (.int p0), .val (.int p1), .unset, .unset, .unset] [(.int (0 : Int32)), (.ref b2), (.ref b2)])) _
  refine own_step (fun _ => XS.bipush X1.here hx rfl (hb hby at_6)) ?_
  show own_Goes p.tables e below (T1.setTop (mkF m 8 #[.val (.int p0), .val (.int p1), .unset, .unset, .unset] [(.int (9 : Int32)), (.int (0 : Int32)), (.ref b2), (.ref b2)])) _
  obtain ⟨T2, h2, L2, X2, e2, N2, V2, W2, st2⟩ := own_stI X1 hx hZ e1 V1 (j := (0 : Int32)) 0 ⟨by decide, by decide⟩ (by decide) (by decide) (g := (mkF m 8 #[.val (.int p0), .val (.int p1), .unset, .unset, .unset] [(.int (9 : Int32)), (.int (0 : Int32)), (.ref b2), (.ref b2)])) rfl rfl (hb hby at_8)
  have N2 := N2 n0 N0 g_b2
  have K2 : Keep h0 h2 [] := K1.wr W2 (Or.inr sz_b2)
  have Z2 : n0 ≤ h2.size := Nat.le_trans Z0 K2.1
  have V2 : own_A Z h2 b2 k1 .int (12 : Int32) [(9 : Int32), (0 : Int32), (0 : Int32), (0 : Int32), (0 : Int32), (0 : Int32), (0 : Int32), (0 : Int32), (0 : Int32), (0 : Int32), (0 : Int32), (0 : Int32)] := V2
  refine own_step (st2) ?_
  show own_Goes p.tables e below (T2.setTop (mkF m 9 #[.val (.int p0), .val (.int p1), .unset, .unset, .unset] [(.ref b2)])) _
  refine own_step (fun _ => XS.dup X2.here hx rfl (hb hby at_9) rfl rfl) ?_
  show own_Goes p.tables e below (T2.setTop (mkF m 10 #[.val (.int p0), .val (.int p1), .unset, .unset, .unset] [(.ref b2), (.ref b2)])) _
  refine own_step (fun _ => XS.iconst X2.here hx rfl (hb hby at_10)) ?_
  show own_Goes p.tables e below (T2.setTop (mkF m 11 #[.val (.int p0), .val (.int p1), .unset, .unset, .unset] [(.int (1 : Int32)), (.ref b2), (.ref b2)])) _
  refine own_step (fun _ => XS.bipush X2.here hx rfl (hb hby at_11)) ?_
  show own_Goes p.tables e below (T2.setTop (mkF m 13 #[.val (.int p0), .val (.int p1), .unset, .unset, .unset] [(.int (10 : Int32)), (.int (1 : Int32)), (.ref b2), (.ref b2)])) _
  obtain ⟨T3, h3, L3, X3, e3, N3, V3, W3, st3⟩ := own_stI X2 hx hZ e2 V2 (j := (1 : Int32)) 1 ⟨by decide, by decide⟩ (by decide) (by decide) (g := (mkF m 13 #[.val (.int p0), .val (.int p1), .unset, .unset, .unset] [(.int (10 : Int32)), (.int (1 : Int32)), (.ref b2), (.ref b2)])) rfl rfl (hb hby at_13)
  have N3 := N3 n0 N2 g_b2
  have K3 : Keep h0 h3 [] := K2.wr W3 (Or.inr sz_b2)
  have Z3 : n0 ≤ h3.size := Nat.le_trans Z0 K3.1
  have V3 : own_A Z h3 b2 k1 .int (12 : Int32) [(9 : Int32), (10 : Int32), (0 : Int32), (0 : Int32), (0 : Int32), (0 : Int32), (0 : Int32), (0 : Int32), (0 : Int32), (0 : Int32), (0 : Int32), (0 : Int32)] := V3
  refine own_step (st3) ?_
  show own_Goes p.tables e below (T3.setTop (mkF m 14 #[.val (.int p0), .val (.int p1), .unset, .unset, .unset] [(.ref b2)])) _
  refine own_step (fun _ => XS.dup X3.here hx rfl (hb hby at_14) rfl rfl) ?_
  show own_Goes p.tables e below (T3.setTop (mkF m 15 #[.val (.int p0), .val (.int p1), .unset, .unset, .unset] [(.ref b2), (.ref b2)])) _
  refine own_step (fun _ => XS.iconst X3.here hx rfl (hb hby at_15)) ?_
  show own_Goes p.tables e below (T3.setTop (mkF m 16 #[.val (.int p0), .val (.int p1), .unset, .unset, .unset] [(.int (2 : Int32)), (.ref b2), (.ref b2)])) _
  refine own_step (fun _ => XS.bipush X3.here hx rfl (hb hby at_16)) ?_
  show own_Goes p.tables e below (T3.setTop (mkF m 18 #[.val (.int p0), .val (.int p1), .unset, .unset, .unset] [(.int (13 : Int32)), (.int (2 : Int32)), (.ref b2), (.ref b2)])) _
  obtain ⟨T4, h4, L4, X4, e4, N4, V4, W4, st4⟩ := own_stI X3 hx hZ e3 V3 (j := (2 : Int32)) 2 ⟨by decide, by decide⟩ (by decide) (by decide) (g := (mkF m 18 #[.val (.int p0), .val (.int p1), .unset, .unset, .unset] [(.int (13 : Int32)), (.int (2 : Int32)), (.ref b2), (.ref b2)])) rfl rfl (hb hby at_18)
  have N4 := N4 n0 N3 g_b2
  have K4 : Keep h0 h4 [] := K3.wr W4 (Or.inr sz_b2)
  have Z4 : n0 ≤ h4.size := Nat.le_trans Z0 K4.1
  have V4 : own_A Z h4 b2 k1 .int (12 : Int32) [(9 : Int32), (10 : Int32), (13 : Int32), (0 : Int32), (0 : Int32), (0 : Int32), (0 : Int32), (0 : Int32), (0 : Int32), (0 : Int32), (0 : Int32), (0 : Int32)] := V4
  refine own_step (st4) ?_
  show own_Goes p.tables e below (T4.setTop (mkF m 19 #[.val (.int p0), .val (.int p1), .unset, .unset, .unset] [(.ref b2)])) _
  refine own_step (fun _ => XS.dup X4.here hx rfl (hb hby at_19) rfl rfl) ?_
  show own_Goes p.tables e below (T4.setTop (mkF m 20 #[.val (.int p0), .val (.int p1), .unset, .unset, .unset] [(.ref b2), (.ref b2)])) _
  refine own_step (fun _ => XS.iconst X4.here hx rfl (hb hby at_20)) ?_
  show own_Goes p.tables e below (T4.setTop (mkF m 21 #[.val (.int p0), .val (.int p1), .unset, .unset, .unset] [(.int (3 : Int32)), (.ref b2), (.ref b2)])) _
  refine own_step (fun _ => XS.bipush X4.here hx rfl (hb hby at_21)) ?_
  show own_Goes p.tables e below (T4.setTop (mkF m 23 #[.val (.int p0), .val (.int p1), .unset, .unset, .unset] [(.int (32 : Int32)), (.int (3 : Int32)), (.ref b2), (.ref b2)])) _
  obtain ⟨T5, h5, L5, X5, e5, N5, V5, W5, st5⟩ := own_stI X4 hx hZ e4 V4 (j := (3 : Int32)) 3 ⟨by decide, by decide⟩ (by decide) (by decide) (g := (mkF m 23 #[.val (.int p0), .val (.int p1), .unset, .unset, .unset] [(.int (32 : Int32)), (.int (3 : Int32)), (.ref b2), (.ref b2)])) rfl rfl (hb hby at_23)
  have N5 := N5 n0 N4 g_b2
  have K5 : Keep h0 h5 [] := K4.wr W5 (Or.inr sz_b2)
  have Z5 : n0 ≤ h5.size := Nat.le_trans Z0 K5.1
  have V5 : own_A Z h5 b2 k1 .int (12 : Int32) [(9 : Int32), (10 : Int32), (13 : Int32), (32 : Int32), (0 : Int32), (0 : Int32), (0 : Int32), (0 : Int32), (0 : Int32), (0 : Int32), (0 : Int32), (0 : Int32)] := V5
  refine own_step (st5) ?_
  show own_Goes p.tables e below (T5.setTop (mkF m 24 #[.val (.int p0), .val (.int p1), .unset, .unset, .unset] [(.ref b2)])) _
  refine own_step (fun _ => XS.dup X5.here hx rfl (hb hby at_24) rfl rfl) ?_
  show own_Goes p.tables e below (T5.setTop (mkF m 25 #[.val (.int p0), .val (.int p1), .unset, .unset, .unset] [(.ref b2), (.ref b2)])) _
  refine own_step (fun _ => XS.iconst X5.here hx rfl (hb hby at_25)) ?_
  show own_Goes p.tables e below (T5.setTop (mkF m 26 #[.val (.int p0), .val (.int p1), .unset, .unset, .unset] [(.int (4 : Int32)), (.ref b2), (.ref b2)])) _
  refine own_step (X5.ldcInt hx hown (mvT hZ (hw _ (List.mem_of_getElem? (i := 1) rfl))) (g := (mkF m 26 #[.val (.int p0), .val (.int p1), .unset, .unset, .unset] [(.int (4 : Int32)), (.ref b2), (.ref b2)])) rfl (hb hby at_26)) ?_
  show own_Goes p.tables e below (T5.setTop (mkF m 28 #[.val (.int p0), .val (.int p1), .unset, .unset, .unset] [(.int (55295 : Int32)), (.int (4 : Int32)), (.ref b2), (.ref b2)])) _
  obtain ⟨T6, h6, L6, X6, e6, N6, V6, W6, st6⟩ := own_stI X5 hx hZ e5 V5 (j := (4 : Int32)) 4 ⟨by decide, by decide⟩ (by decide) (by decide) (g := (mkF m 28 #[.val (.int p0), .val (.int p1), .unset, .unset, .unset] [(.int (55295 : Int32)), (.int (4 : Int32)), (.ref b2), (.ref b2)])) rfl rfl (hb hby at_28)
  have N6 := N6 n0 N5 g_b2
  have K6 : Keep h0 h6 [] := K5.wr W6 (Or.inr sz_b2)
  have Z6 : n0 ≤ h6.size := Nat.le_trans Z0 K6.1
  have V6 : own_A Z h6 b2 k1 .int (12 : Int32) [(9 : Int32), (10 : Int32), (13 : Int32), (32 : Int32), (55295 : Int32), (0 : Int32), (0 : Int32), (0 : Int32), (0 : Int32), (0 : Int32), (0 : Int32), (0 : Int32)] := V6
  refine own_step (st6) ?_
  show own_Goes p.tables e below (T6.setTop (mkF m 29 #[.val (.int p0), .val (.int p1), .unset, .unset, .unset] [(.ref b2)])) _
  refine own_step (fun _ => XS.dup X6.here hx rfl (hb hby at_29) rfl rfl) ?_
  show own_Goes p.tables e below (T6.setTop (mkF m 30 #[.val (.int p0), .val (.int p1), .unset, .unset, .unset] [(.ref b2), (.ref b2)])) _
  refine own_step (fun _ => XS.iconst X6.here hx rfl (hb hby at_30)) ?_
  show own_Goes p.tables e below (T6.setTop (mkF m 31 #[.val (.int p0), .val (.int p1), .unset, .unset, .unset] [(.int (5 : Int32)), (.ref b2), (.ref b2)])) _
  refine own_step (X6.ldcInt hx hown (mvT hZ (hw _ (List.mem_of_getElem? (i := 2) rfl))) (g := (mkF m 31 #[.val (.int p0), .val (.int p1), .unset, .unset, .unset] [(.int (5 : Int32)), (.ref b2), (.ref b2)])) rfl (hb hby at_31)) ?_
  show own_Goes p.tables e below (T6.setTop (mkF m 33 #[.val (.int p0), .val (.int p1), .unset, .unset, .unset] [(.int (57344 : Int32)), (.int (5 : Int32)), (.ref b2), (.ref b2)])) _
  obtain ⟨T7, h7, L7, X7, e7, N7, V7, W7, st7⟩ := own_stI X6 hx hZ e6 V6 (j := (5 : Int32)) 5 ⟨by decide, by decide⟩ (by decide) (by decide) (g := (mkF m 33 #[.val (.int p0), .val (.int p1), .unset, .unset, .unset] [(.int (57344 : Int32)), (.int (5 : Int32)), (.ref b2), (.ref b2)])) rfl rfl (hb hby at_33)
  have N7 := N7 n0 N6 g_b2
  have K7 : Keep h0 h7 [] := K6.wr W7 (Or.inr sz_b2)
  have Z7 : n0 ≤ h7.size := Nat.le_trans Z0 K7.1
  have V7 : own_A Z h7 b2 k1 .int (12 : Int32) [(9 : Int32), (10 : Int32), (13 : Int32), (32 : Int32), (55295 : Int32), (57344 : Int32), (0 : Int32), (0 : Int32), (0 : Int32), (0 : Int32), (0 : Int32), (0 : Int32)] := V7
  refine own_step (st7) ?_
  show own_Goes p.tables e below (T7.setTop (mkF m 34 #[.val (.int p0), .val (.int p1), .unset, .unset, .unset] [(.ref b2)])) _
  refine own_step (fun _ => XS.dup X7.here hx rfl (hb hby at_34) rfl rfl) ?_
  show own_Goes p.tables e below (T7.setTop (mkF m 35 #[.val (.int p0), .val (.int p1), .unset, .unset, .unset] [(.ref b2), (.ref b2)])) _
  refine own_step (fun _ => XS.bipush X7.here hx rfl (hb hby at_35)) ?_
  show own_Goes p.tables e below (T7.setTop (mkF m 37 #[.val (.int p0), .val (.int p1), .unset, .unset, .unset] [(.int (6 : Int32)), (.ref b2), (.ref b2)])) _
  refine own_step (X7.ldcInt hx hown (mvT hZ (hw _ (List.mem_of_getElem? (i := 3) rfl))) (g := (mkF m 37 #[.val (.int p0), .val (.int p1), .unset, .unset, .unset] [(.int (6 : Int32)), (.ref b2), (.ref b2)])) rfl (hb hby at_37)) ?_
  show own_Goes p.tables e below (T7.setTop (mkF m 39 #[.val (.int p0), .val (.int p1), .unset, .unset, .unset] [(.int (65533 : Int32)), (.int (6 : Int32)), (.ref b2), (.ref b2)])) _
  obtain ⟨T8, h8, L8, X8, e8, N8, V8, W8, st8⟩ := own_stI X7 hx hZ e7 V7 (j := (6 : Int32)) 6 ⟨by decide, by decide⟩ (by decide) (by decide) (g := (mkF m 39 #[.val (.int p0), .val (.int p1), .unset, .unset, .unset] [(.int (65533 : Int32)), (.int (6 : Int32)), (.ref b2), (.ref b2)])) rfl rfl (hb hby at_39)
  have N8 := N8 n0 N7 g_b2
  have K8 : Keep h0 h8 [] := K7.wr W8 (Or.inr sz_b2)
  have Z8 : n0 ≤ h8.size := Nat.le_trans Z0 K8.1
  have V8 : own_A Z h8 b2 k1 .int (12 : Int32) [(9 : Int32), (10 : Int32), (13 : Int32), (32 : Int32), (55295 : Int32), (57344 : Int32), (65533 : Int32), (0 : Int32), (0 : Int32), (0 : Int32), (0 : Int32), (0 : Int32)] := V8
  refine own_step (st8) ?_
  show own_Goes p.tables e below (T8.setTop (mkF m 40 #[.val (.int p0), .val (.int p1), .unset, .unset, .unset] [(.ref b2)])) _
  refine own_step (fun _ => XS.dup X8.here hx rfl (hb hby at_40) rfl rfl) ?_
  show own_Goes p.tables e below (T8.setTop (mkF m 41 #[.val (.int p0), .val (.int p1), .unset, .unset, .unset] [(.ref b2), (.ref b2)])) _
  refine own_step (fun _ => XS.bipush X8.here hx rfl (hb hby at_41)) ?_
  show own_Goes p.tables e below (T8.setTop (mkF m 43 #[.val (.int p0), .val (.int p1), .unset, .unset, .unset] [(.int (7 : Int32)), (.ref b2), (.ref b2)])) _
  refine own_step (X8.ldcInt hx hown (mvT hZ (hw _ (List.mem_of_getElem? (i := 4) rfl))) (g := (mkF m 43 #[.val (.int p0), .val (.int p1), .unset, .unset, .unset] [(.int (7 : Int32)), (.ref b2), (.ref b2)])) rfl (hb hby at_43)) ?_
  show own_Goes p.tables e below (T8.setTop (mkF m 45 #[.val (.int p0), .val (.int p1), .unset, .unset, .unset] [(.int (65536 : Int32)), (.int (7 : Int32)), (.ref b2), (.ref b2)])) _
  obtain ⟨T9, h9, L9, X9, e9, N9, V9, W9, st9⟩ := own_stI X8 hx hZ e8 V8 (j := (7 : Int32)) 7 ⟨by decide, by decide⟩ (by decide) (by decide) (g := (mkF m 45 #[.val (.int p0), .val (.int p1), .unset, .unset, .unset] [(.int (65536 : Int32)), (.int (7 : Int32)), (.ref b2), (.ref b2)])) rfl rfl (hb hby at_45)
  have N9 := N9 n0 N8 g_b2
  have K9 : Keep h0 h9 [] := K8.wr W9 (Or.inr sz_b2)
  have Z9 : n0 ≤ h9.size := Nat.le_trans Z0 K9.1
  have V9 : own_A Z h9 b2 k1 .int (12 : Int32) [(9 : Int32), (10 : Int32), (13 : Int32), (32 : Int32), (55295 : Int32), (57344 : Int32), (65533 : Int32), (65536 : Int32), (0 : Int32), (0 : Int32), (0 : Int32), (0 : Int32)] := V9
  refine own_step (st9) ?_
  show own_Goes p.tables e below (T9.setTop (mkF m 46 #[.val (.int p0), .val (.int p1), .unset, .unset, .unset] [(.ref b2)])) _
  refine own_step (fun _ => XS.dup X9.here hx rfl (hb hby at_46) rfl rfl) ?_
  show own_Goes p.tables e below (T9.setTop (mkF m 47 #[.val (.int p0), .val (.int p1), .unset, .unset, .unset] [(.ref b2), (.ref b2)])) _
  refine own_step (fun _ => XS.bipush X9.here hx rfl (hb hby at_47)) ?_
  show own_Goes p.tables e below (T9.setTop (mkF m 49 #[.val (.int p0), .val (.int p1), .unset, .unset, .unset] [(.int (8 : Int32)), (.ref b2), (.ref b2)])) _
  refine own_step (X9.ldcInt hx hown (mvT hZ (hw _ (List.mem_of_getElem? (i := 5) rfl))) (g := (mkF m 49 #[.val (.int p0), .val (.int p1), .unset, .unset, .unset] [(.int (8 : Int32)), (.ref b2), (.ref b2)])) rfl (hb hby at_49)) ?_
  show own_Goes p.tables e below (T9.setTop (mkF m 51 #[.val (.int p0), .val (.int p1), .unset, .unset, .unset] [(.int (1114111 : Int32)), (.int (8 : Int32)), (.ref b2), (.ref b2)])) _
  obtain ⟨T10, h10, L10, X10, e10, N10, V10, W10, st10⟩ := own_stI X9 hx hZ e9 V9 (j := (8 : Int32)) 8 ⟨by decide, by decide⟩ (by decide) (by decide) (g := (mkF m 51 #[.val (.int p0), .val (.int p1), .unset, .unset, .unset] [(.int (1114111 : Int32)), (.int (8 : Int32)), (.ref b2), (.ref b2)])) rfl rfl (hb hby at_51)
  have N10 := N10 n0 N9 g_b2
  have K10 : Keep h0 h10 [] := K9.wr W10 (Or.inr sz_b2)
  have Z10 : n0 ≤ h10.size := Nat.le_trans Z0 K10.1
  have V10 : own_A Z h10 b2 k1 .int (12 : Int32) [(9 : Int32), (10 : Int32), (13 : Int32), (32 : Int32), (55295 : Int32), (57344 : Int32), (65533 : Int32), (65536 : Int32), (1114111 : Int32), (0 : Int32), (0 : Int32), (0 : Int32)] := V10
  refine own_step (st10) ?_
  show own_Goes p.tables e below (T10.setTop (mkF m 52 #[.val (.int p0), .val (.int p1), .unset, .unset, .unset] [(.ref b2)])) _
  refine own_step (fun _ => XS.dup X10.here hx rfl (hb hby at_52) rfl rfl) ?_
  show own_Goes p.tables e below (T10.setTop (mkF m 53 #[.val (.int p0), .val (.int p1), .unset, .unset, .unset] [(.ref b2), (.ref b2)])) _
  refine own_step (fun _ => XS.bipush X10.here hx rfl (hb hby at_53)) ?_
  show own_Goes p.tables e below (T10.setTop (mkF m 55 #[.val (.int p0), .val (.int p1), .unset, .unset, .unset] [(.int (9 : Int32)), (.ref b2), (.ref b2)])) _
  refine own_step (fun _ => XS.iconst X10.here hx rfl (hb hby at_55)) ?_
  show own_Goes p.tables e below (T10.setTop (mkF m 56 #[.val (.int p0), .val (.int p1), .unset, .unset, .unset] [(.int (0 : Int32)), (.int (9 : Int32)), (.ref b2), (.ref b2)])) _
  obtain ⟨T11, h11, L11, X11, e11, N11, V11, W11, st11⟩ := own_stI X10 hx hZ e10 V10 (j := (9 : Int32)) 9 ⟨by decide, by decide⟩ (by decide) (by decide) (g := (mkF m 56 #[.val (.int p0), .val (.int p1), .unset, .unset, .unset] [(.int (0 : Int32)), (.int (9 : Int32)), (.ref b2), (.ref b2)])) rfl rfl (hb hby at_56)
  have N11 := N11 n0 N10 g_b2
  have K11 : Keep h0 h11 [] := K10.wr W11 (Or.inr sz_b2)
  have Z11 : n0 ≤ h11.size := Nat.le_trans Z0 K11.1
  have V11 : own_A Z h11 b2 k1 .int (12 : Int32) [(9 : Int32), (10 : Int32), (13 : Int32), (32 : Int32), (55295 : Int32), (57344 : Int32), (65533 : Int32), (65536 : Int32), (1114111 : Int32), (0 : Int32), (0 : Int32), (0 : Int32)] := V11
  refine own_step (st11) ?_
  show own_Goes p.tables e below (T11.setTop (mkF m 57 #[.val (.int p0), .val (.int p1), .unset, .unset, .unset] [(.ref b2)])) _
  refine own_step (fun _ => XS.dup X11.here hx rfl (hb hby at_57) rfl rfl) ?_
  show own_Goes p.tables e below (T11.setTop (mkF m 58 #[.val (.int p0), .val (.int p1), .unset, .unset, .unset] [(.ref b2), (.ref b2)])) _
  refine own_step (fun _ => XS.bipush X11.here hx rfl (hb hby at_58)) ?_
  show own_Goes p.tables e below (T11.setTop (mkF m 60 #[.val (.int p0), .val (.int p1), .unset, .unset, .unset] [(.int (10 : Int32)), (.ref b2), (.ref b2)])) _
  refine own_step (X11.ldcInt hx hown (mvT hZ (hw _ (List.mem_of_getElem? (i := 6) rfl))) (g := (mkF m 60 #[.val (.int p0), .val (.int p1), .unset, .unset, .unset] [(.int (10 : Int32)), (.ref b2), (.ref b2)])) rfl (hb hby at_60)) ?_
  show own_Goes p.tables e below (T11.setTop (mkF m 62 #[.val (.int p0), .val (.int p1), .unset, .unset, .unset] [(.int (-2147483648 : Int32)), (.int (10 : Int32)), (.ref b2), (.ref b2)])) _
  obtain ⟨T12, h12, L12, X12, e12, N12, V12, W12, st12⟩ := own_stI X11 hx hZ e11 V11 (j := (10 : Int32)) 10 ⟨by decide, by decide⟩ (by decide) (by decide) (g := (mkF m 62 #[.val (.int p0), .val (.int p1), .unset, .unset, .unset] [(.int (-2147483648 : Int32)), (.int (10 : Int32)), (.ref b2), (.ref b2)])) rfl rfl (hb hby at_62)
  have N12 := N12 n0 N11 g_b2
  have K12 : Keep h0 h12 [] := K11.wr W12 (Or.inr sz_b2)
  have Z12 : n0 ≤ h12.size := Nat.le_trans Z0 K12.1
  have V12 : own_A Z h12 b2 k1 .int (12 : Int32) [(9 : Int32), (10 : Int32), (13 : Int32), (32 : Int32), (55295 : Int32), (57344 : Int32), (65533 : Int32), (65536 : Int32), (1114111 : Int32), (0 : Int32), (-2147483648 : Int32), (0 : Int32)] := V12
  refine own_step (st12) ?_
  show own_Goes p.tables e below (T12.setTop (mkF m 63 #[.val (.int p0), .val (.int p1), .unset, .unset, .unset] [(.ref b2)])) _
  refine own_step (fun _ => XS.dup X12.here hx rfl (hb hby at_63) rfl rfl) ?_
  show own_Goes p.tables e below (T12.setTop (mkF m 64 #[.val (.int p0), .val (.int p1), .unset, .unset, .unset] [(.ref b2), (.ref b2)])) _
  refine own_step (fun _ => XS.bipush X12.here hx rfl (hb hby at_64)) ?_
  show own_Goes p.tables e below (T12.setTop (mkF m 66 #[.val (.int p0), .val (.int p1), .unset, .unset, .unset] [(.int (11 : Int32)), (.ref b2), (.ref b2)])) _
  refine own_step (X12.ldcInt hx hown (mvT hZ (hw _ (List.mem_of_getElem? (i := 7) rfl))) (g := (mkF m 66 #[.val (.int p0), .val (.int p1), .unset, .unset, .unset] [(.int (11 : Int32)), (.ref b2), (.ref b2)])) rfl (hb hby at_66)) ?_
  show own_Goes p.tables e below (T12.setTop (mkF m 68 #[.val (.int p0), .val (.int p1), .unset, .unset, .unset] [(.int (2147483647 : Int32)), (.int (11 : Int32)), (.ref b2), (.ref b2)])) _
  obtain ⟨T13, h13, L13, X13, e13, N13, V13, W13, st13⟩ := own_stI X12 hx hZ e12 V12 (j := (11 : Int32)) 11 ⟨by decide, by decide⟩ (by decide) (by decide) (g := (mkF m 68 #[.val (.int p0), .val (.int p1), .unset, .unset, .unset] [(.int (2147483647 : Int32)), (.int (11 : Int32)), (.ref b2), (.ref b2)])) rfl rfl (hb hby at_68)
  have N13 := N13 n0 N12 g_b2
  have K13 : Keep h0 h13 [] := K12.wr W13 (Or.inr sz_b2)
  have Z13 : n0 ≤ h13.size := Nat.le_trans Z0 K13.1
  have V13 : own_A Z h13 b2 k1 .int (12 : Int32) [(9 : Int32), (10 : Int32), (13 : Int32), (32 : Int32), (55295 : Int32), (57344 : Int32), (65533 : Int32), (65536 : Int32), (1114111 : Int32), (0 : Int32), (-2147483648 : Int32), (2147483647 : Int32)] := V13
  refine own_step (st13) ?_
  show own_Goes p.tables e below (T13.setTop (mkF m 69 #[.val (.int p0), .val (.int p1), .unset, .unset, .unset] [(.ref b2)])) _
  have V_own_tb : own_A Z h13 b2 k1 .int (12 : Int32) own_tb := V13
  refine own_step (fun _ => XS.astoreN X13.here hx rfl (hb hby at_69) rfl rfl (l' := #[.val (.int p0), .val (.int p1), .val (.ref b2), .unset, .unset]) rfl) ?_
  show own_Goes p.tables e below (T13.setTop (mkF m 70 #[.val (.int p0), .val (.int p1), .val (.ref b2), .unset, .unset] [])) _
  refine own_step (fun _ => XS.iloadN X13.here hx rfl (hb hby at_70) rfl) ?_
  show own_Goes p.tables e below (T13.setTop (mkF m 71 #[.val (.int p0), .val (.int p1), .val (.ref b2), .unset, .unset] [(.int p1)])) _
  refine own_step (fun _ => XS.sipush X13.here hx rfl (hb hby at_71)) ?_
  show own_Goes p.tables e below (T13.setTop (mkF m 74 #[.val (.int p0), .val (.int p1), .val (.ref b2), .unset, .unset] [(.int (255 : Int32)), (.int p1)])) _
  refine own_step (fun _ => XS.iand X13.here hx rfl (hb hby at_74) rfl) ?_
  show own_Goes p.tables e below (T13.setTop (mkF m 75 #[.val (.int p0), .val (.int p1), .val (.ref b2), .unset, .unset] [(.int (p1 &&& (255 : Int32)))])) _
  refine own_step (fun _ => XS.bipush X13.here hx rfl (hb hby at_75)) ?_
  show own_Goes p.tables e below (T13.setTop (mkF m 77 #[.val (.int p0), .val (.int p1), .val (.ref b2), .unset, .unset] [(.int (16 : Int32)), (.int (p1 &&& (255 : Int32)))])) _
  refine own_step (fun _ => XS.irem X13.here hx rfl (hb hby at_77) rfl (by decide)) ?_
  show own_Goes p.tables e below (T13.setTop (mkF m 78 #[.val (.int p0), .val (.int p1), .val (.ref b2), .unset, .unset] [(.int ((p1 &&& (255 : Int32)) - (p1 &&& (255 : Int32)) / (16 : Int32) * (16 : Int32)))])) _
  obtain ⟨z78, hz78⟩ : ∃ z : Int32, z = ((p1 &&& (255 : Int32)) - (p1 &&& (255 : Int32)) / (16 : Int32) * (16 : Int32)) := ⟨_, rfl⟩
  refine own_step (fun _ => XS.istoreN X13.here hx rfl (hb hby at_78) rfl (l' := #[.val (.int p0), .val (.int p1), .val (.ref b2), .val (.int z78), .unset]) (by subst hz78; rfl)) ?_
  show own_Goes p.tables e below (T13.setTop (mkF m 79 #[.val (.int p0), .val (.int p1), .val (.ref b2), .val (.int z78), .unset] [])) _
  refine own_step (fun _ => XS.iloadN X13.here hx rfl (hb hby at_79) rfl) ?_
  show own_Goes p.tables e below (T13.setTop (mkF m 80 #[.val (.int p0), .val (.int p1), .val (.ref b2), .val (.int z78), .unset] [(.int z78)])) _
  refine own_step (fun _ => XS.bipush X13.here hx rfl (hb hby at_80)) ?_
  show own_Goes p.tables e below (T13.setTop (mkF m 82 #[.val (.int p0), .val (.int p1), .val (.ref b2), .val (.int z78), .unset] [(.int (12 : Int32)), (.int z78)])) _
  have J106 : ∀ (T_106 : State) (X_106 : Stand p l e room_1 s m #[(.int p0), (.int p1)] below meth c T_106 L13 (0 + 1) (0 + 12)) (e_106 : T_106.heap = h13) (v106_l4 : Int32), own_Goes p.tables e below (T_106.setTop (mkF m 106 #[.val (.int p0), .val (.int p1), .val (.ref b2), .val (.int z78), .val (.int v106_l4)] [])) (own_P s (own_Ql (some (.int (own_f0_106 v106_l4))) n0) 1 12) := by
    intro T_106 X_106 e_106 v106_l4
    refine own_step (fun _ => XS.iload X_106.here hx rfl (hb hby at_106) rfl) ?_
    show own_Goes p.tables e below (T_106.setTop (mkF m 108 #[.val (.int p0), .val (.int p1), .val (.ref b2), .val (.int z78), .val (.int v106_l4)] [(.int v106_l4)])) _
    obtain ⟨_, _, ⟨T14, L14, k14, n14⟩, -, X14, ⟨Lc14, hQ14, l14, y14, z14⟩, st14⟩ := Jvm.LawKit.callS X_106 hx (y := (⟨"com/example/unnest/unnest/xml/XmlChars", "isXmlChar", "(I)Z"⟩ : MethodName)) hown (mvT hZ (hw _ (List.mem_of_getElem? (i := 8) rfl))) (mvT hZ (hw _ (List.mem_of_getElem? (i := 9) rfl))) (mvT hZ (hw _ (List.mem_of_getElem? (i := 10) rfl))) (mvT hZ (hw _ (List.mem_of_getElem? (i := 11) rfl))) (by decide) (backOf (W := 0) (rm1 l Z a0 hw [] v106_l4 h13 n0 Z13) hZ (hw _ (List.mem_of_getElem? (i := 11) rfl)) (hw _ (List.mem_of_getElem? (i := 10) rfl)) (by decide) (by decide)) (g := (mkF m 108 #[.val (.int p0), .val (.int p1), .val (.ref b2), .val (.int z78), .val (.int v106_l4)] [(.int v106_l4)])) rfl (by rw [hml]; rfl) (argsL := [(.int v106_l4)]) (rest := []) (lenOf pd_0_0 rfl) rfl (by show 2 * 0 + _ ≤ _; exact Nat.le_of_eq rfl) (hb hby at_108) (fun _ _ => ⟨rfl, e_106, (by decide : (0 + 1) + 0 ≤ _), (by decide : (0 + 12) + 0 ≤ _)⟩)
    dsimp only [Pt.U, Pt.locs, Pt.cells, Pt.slots] at X14 l14 y14 z14 st14 hQ14
    subst l14 y14 z14
    obtain ⟨rfl, rfl, e14⟩ := hQ14
    have X14 : Stand p l e room_1 s m #[(.int p0), (.int p1)] below meth c T14 L13 (0 + 1) (0 + 12) := own_flat X14
    refine own_step (st14) ?_
    show own_Goes p.tables e below (T14.setTop (mkF m 111 #[.val (.int p0), .val (.int p1), .val (.ref b2), .val (.int z78), .val (.int v106_l4)] [(.int (own_f1 v106_l4))])) _
    refine own_step (fun _ => XS.iload X14.here hx rfl (hb hby at_111) rfl) ?_
    show own_Goes p.tables e below (T14.setTop (mkF m 113 #[.val (.int p0), .val (.int p1), .val (.ref b2), .val (.int z78), .val (.int v106_l4)] [(.int v106_l4), (.int (own_f1 v106_l4))])) _
    obtain ⟨_, _, ⟨T15, L15, k15, n15⟩, -, X15, ⟨Lc15, hQ15, l15, y15, z15⟩, st15⟩ := Jvm.LawKit.callS X14 hx (y := (⟨"com/example/unnest/unnest/xml/XmlCharsIsXmlCharPinLaw", "excluded", "(I)Z"⟩ : MethodName)) hown (mvT hZ (hw _ (List.mem_of_getElem? (i := 14) rfl))) (mvT hZ (hw _ (List.mem_of_getElem? (i := 15) rfl))) (mvT hZ (hw _ (List.mem_of_getElem? (i := 16) rfl))) (mvT hZ (hw _ (List.mem_of_getElem? (i := 17) rfl))) (by decide) (backOf (W := 1) (rm2 l Z a0 hw [] v106_l4 h13 n0 Z13) hZ (hw _ (List.mem_of_getElem? (i := 17) rfl)) (hw _ (List.mem_of_getElem? (i := 16) rfl)) (by decide) (by decide)) (g := (mkF m 113 #[.val (.int p0), .val (.int p1), .val (.ref b2), .val (.int z78), .val (.int v106_l4)] [(.int v106_l4), (.int (own_f1 v106_l4))])) rfl (by rw [hml]; rfl) (argsL := [(.int v106_l4)]) (rest := [(.int (own_f1 v106_l4))]) (lenOf pd_0_0 rfl) rfl (by show 2 * 0 + _ ≤ _; exact Nat.le_of_eq rfl) (hb hby at_113) (fun _ _ => ⟨rfl, e14, (by decide : (0 + 1) + 0 ≤ _), (by decide : (0 + 12) + 0 ≤ _)⟩)
    dsimp only [Pt.U, Pt.locs, Pt.cells, Pt.slots] at X15 l15 y15 z15 st15 hQ15
    subst l15 y15 z15
    obtain ⟨rfl, rfl, e15⟩ := hQ15
    have X15 : Stand p l e room_1 s m #[(.int p0), (.int p1)] below meth c T15 L13 (0 + 1) (0 + 12) := own_flat X15
    refine own_step (st15) ?_
    show own_Goes p.tables e below (T15.setTop (mkF m 116 #[.val (.int p0), .val (.int p1), .val (.ref b2), .val (.int z78), .val (.int v106_l4)] [(.int (own_f2 v106_l4)), (.int (own_f1 v106_l4))])) _
    have J124 : ∀ (T_124 : State) (X_124 : Stand p l e room_1 s m #[(.int p0), (.int p1)] below meth c T_124 L13 (0 + 1) (0 + 12)) (e_124 : T_124.heap = h13) (v124_t0 : Int32), own_Goes p.tables e below (T_124.setTop (mkF m 124 #[.val (.int p0), .val (.int p1), .val (.ref b2), .val (.int z78), .val (.int v106_l4)] [(.int v124_t0), (.int (own_f1 v106_l4))])) (own_P s (own_Ql (some (.int (own_f0_124 v106_l4 v124_t0))) n0) 1 12) := by
      intro T_124 X_124 e_124 v124_t0
      by_cases hc124 : (own_f1 v106_l4) = v124_t0
      · refine own_step (fun _ => XS.icmpNo X_124.here hx rfl (hb hby at_124) rfl (Jvm.Free.XT.ii_ne_f hc124)) ?_
        show own_Goes p.tables e below (T_124.setTop (mkF m 127 #[.val (.int p0), .val (.int p1), .val (.ref b2), .val (.int z78), .val (.int v106_l4)] [])) _
        refine own_step (fun _ => XS.iconst X_124.here hx rfl (hb hby at_127)) ?_
        show own_Goes p.tables e below (T_124.setTop (mkF m 128 #[.val (.int p0), .val (.int p1), .val (.ref b2), .val (.int z78), .val (.int v106_l4)] [(.int (1 : Int32))])) _
        refine own_step (fun _ => XS.goto X_124.here hx rfl (pc0 := 128) (pc' := 132) rfl (hb hby at_128) (by decide) (by decide)) ?_
        show own_Goes p.tables e below (T_124.setTop (mkF m 132 #[.val (.int p0), .val (.int p1), .val (.ref b2), .val (.int z78), .val (.int v106_l4)] [(.int (1 : Int32))])) _
        have hv : (own_f0_124 v106_l4 v124_t0) = (1 : Int32) := by exact (if_pos hc124)
        rw [hv]
        exact own_retN X_124 hx (t := .boolean) Bd.returns (by simp) (hb hby at_132) (BodyLoose.notSynchronized Bd) (w := (1 : Int32)) rfl ⟨rfl, N13⟩ (by decide) (by decide)
      · refine own_step (fun _ => XS.icmpYes X_124.here hx rfl (pc0 := 124) (pc' := 131) rfl (hb hby at_124) rfl (Jvm.Free.XT.ii_ne_t hc124) (by decide) (by decide)) ?_
        show own_Goes p.tables e below (T_124.setTop (mkF m 131 #[.val (.int p0), .val (.int p1), .val (.ref b2), .val (.int z78), .val (.int v106_l4)] [])) _
        refine own_step (fun _ => XS.iconst X_124.here hx rfl (hb hby at_131)) ?_
        show own_Goes p.tables e below (T_124.setTop (mkF m 132 #[.val (.int p0), .val (.int p1), .val (.ref b2), .val (.int z78), .val (.int v106_l4)] [(.int (0 : Int32))])) _
        have hv : (own_f0_124 v106_l4 v124_t0) = (0 : Int32) := by exact (if_neg hc124)
        rw [hv]
        exact own_retN X_124 hx (t := .boolean) Bd.returns (by simp) (hb hby at_132) (BodyLoose.notSynchronized Bd) (w := (0 : Int32)) rfl ⟨rfl, N13⟩ (by decide) (by decide)
    by_cases hc116 : (own_f2 v106_l4) = 0
    · refine own_step (fun _ => XS.ifNo X15.here hx rfl (hb hby at_116) rfl (Jvm.Free.XT.i0_ne_f hc116)) ?_
      show own_Goes p.tables e below (T15.setTop (mkF m 119 #[.val (.int p0), .val (.int p1), .val (.ref b2), .val (.int z78), .val (.int v106_l4)] [(.int (own_f1 v106_l4))])) _
      refine own_step (fun _ => XS.iconst X15.here hx rfl (hb hby at_119)) ?_
      show own_Goes p.tables e below (T15.setTop (mkF m 120 #[.val (.int p0), .val (.int p1), .val (.ref b2), .val (.int z78), .val (.int v106_l4)] [(.int (1 : Int32)), (.int (own_f1 v106_l4))])) _
      refine own_step (fun _ => XS.goto X15.here hx rfl (pc0 := 120) (pc' := 124) rfl (hb hby at_120) (by decide) (by decide)) ?_
      show own_Goes p.tables e below (T15.setTop (mkF m 124 #[.val (.int p0), .val (.int p1), .val (.ref b2), .val (.int z78), .val (.int v106_l4)] [(.int (1 : Int32)), (.int (own_f1 v106_l4))])) _
      have hv : (own_f0_106 v106_l4) = (own_f0_124 v106_l4 (1 : Int32)) := by exact (if_pos hc116)
      rw [hv]
      exact J124 T15 X15 e15 (1 : Int32)
    · refine own_step (fun _ => XS.ifYes X15.here hx rfl (pc0 := 116) (pc' := 123) rfl (hb hby at_116) rfl (Jvm.Free.XT.i0_ne_t hc116) (by decide) (by decide)) ?_
      show own_Goes p.tables e below (T15.setTop (mkF m 123 #[.val (.int p0), .val (.int p1), .val (.ref b2), .val (.int z78), .val (.int v106_l4)] [(.int (own_f1 v106_l4))])) _
      refine own_step (fun _ => XS.iconst X15.here hx rfl (hb hby at_123)) ?_
      show own_Goes p.tables e below (T15.setTop (mkF m 124 #[.val (.int p0), .val (.int p1), .val (.ref b2), .val (.int z78), .val (.int v106_l4)] [(.int (0 : Int32)), (.int (own_f1 v106_l4))])) _
      have hv : (own_f0_106 v106_l4) = (own_f0_124 v106_l4 (0 : Int32)) := by exact (if_neg hc116)
      rw [hv]
      exact J124 T15 X15 e15 (0 : Int32)
  by_cases hc82 : z78 < (12 : Int32)
  · refine own_step (fun _ => XS.icmpYes X13.here hx rfl (pc0 := 82) (pc' := 91) rfl (hb hby at_82) rfl (Jvm.Free.XT.ii_lt_t hc82) (by decide) (by decide)) ?_
    show own_Goes p.tables e below (T13.setTop (mkF m 91 #[.val (.int p0), .val (.int p1), .val (.ref b2), .val (.int z78), .unset] [])) _
    refine own_step (fun _ => XS.aloadN X13.here hx rfl (hb hby at_91) rfl rfl) ?_
    show own_Goes p.tables e below (T13.setTop (mkF m 92 #[.val (.int p0), .val (.int p1), .val (.ref b2), .val (.int z78), .unset] [(.ref b2)])) _
    refine own_step (fun _ => XS.iloadN X13.here hx rfl (hb hby at_92) rfl) ?_
    show own_Goes p.tables e below (T13.setTop (mkF m 93 #[.val (.int p0), .val (.int p1), .val (.ref b2), .val (.int z78), .unset] [(.int z78), (.ref b2)])) _
    refine own_step (own_ldI X13 hx hZ e13 V_own_tb (j := z78) ⟨by subst hz78; exact own_nn p1, hc82⟩ (g := (mkF m 93 #[.val (.int p0), .val (.int p1), .val (.ref b2), .val (.int z78), .unset] [(.int z78), (.ref b2)])) rfl rfl (hb hby at_93)) ?_
    show own_Goes p.tables e below (T13.setTop (mkF m 94 #[.val (.int p0), .val (.int p1), .val (.ref b2), .val (.int z78), .unset] [(.int (own_tb.getD z78.toNatClampNeg 0))])) _
    refine own_step (fun _ => XS.iloadN X13.here hx rfl (hb hby at_94) rfl) ?_
    show own_Goes p.tables e below (T13.setTop (mkF m 95 #[.val (.int p0), .val (.int p1), .val (.ref b2), .val (.int z78), .unset] [(.int p1), (.int (own_tb.getD z78.toNatClampNeg 0))])) _
    refine own_step (fun _ => XS.bipush X13.here hx rfl (hb hby at_95)) ?_
    show own_Goes p.tables e below (T13.setTop (mkF m 97 #[.val (.int p0), .val (.int p1), .val (.ref b2), .val (.int z78), .unset] [(.int (8 : Int32)), (.int p1), (.int (own_tb.getD z78.toNatClampNeg 0))])) _
    refine own_step (fun _ => XS.ishr X13.here hx rfl (hb hby at_97) rfl) ?_
    show own_Goes p.tables e below (T13.setTop (mkF m 98 #[.val (.int p0), .val (.int p1), .val (.ref b2), .val (.int z78), .unset] [(.int (p1 >>> ((8 : Int32) &&& 31))), (.int (own_tb.getD z78.toNatClampNeg 0))])) _
    refine own_step (fun _ => XS.bipush X13.here hx rfl (hb hby at_98)) ?_
    show own_Goes p.tables e below (T13.setTop (mkF m 100 #[.val (.int p0), .val (.int p1), .val (.ref b2), .val (.int z78), .unset] [(.int (7 : Int32)), (.int (p1 >>> ((8 : Int32) &&& 31))), (.int (own_tb.getD z78.toNatClampNeg 0))])) _
    refine own_step (fun _ => XS.iand X13.here hx rfl (hb hby at_100) rfl) ?_
    show own_Goes p.tables e below (T13.setTop (mkF m 101 #[.val (.int p0), .val (.int p1), .val (.ref b2), .val (.int z78), .unset] [(.int ((p1 >>> ((8 : Int32) &&& 31)) &&& (7 : Int32))), (.int (own_tb.getD z78.toNatClampNeg 0))])) _
    refine own_step (fun _ => XS.iconst X13.here hx rfl (hb hby at_101)) ?_
    show own_Goes p.tables e below (T13.setTop (mkF m 102 #[.val (.int p0), .val (.int p1), .val (.ref b2), .val (.int z78), .unset] [(.int (3 : Int32)), (.int ((p1 >>> ((8 : Int32) &&& 31)) &&& (7 : Int32))), (.int (own_tb.getD z78.toNatClampNeg 0))])) _
    refine own_step (fun _ => XS.isub X13.here hx rfl (hb hby at_102) rfl) ?_
    show own_Goes p.tables e below (T13.setTop (mkF m 103 #[.val (.int p0), .val (.int p1), .val (.ref b2), .val (.int z78), .unset] [(.int (((p1 >>> ((8 : Int32) &&& 31)) &&& (7 : Int32)) - (3 : Int32))), (.int (own_tb.getD z78.toNatClampNeg 0))])) _
    refine own_step (fun _ => XS.iadd X13.here hx rfl (hb hby at_103) rfl) ?_
    show own_Goes p.tables e below (T13.setTop (mkF m 104 #[.val (.int p0), .val (.int p1), .val (.ref b2), .val (.int z78), .unset] [(.int ((own_tb.getD z78.toNatClampNeg 0) + (((p1 >>> ((8 : Int32) &&& 31)) &&& (7 : Int32)) - (3 : Int32))))])) _
    obtain ⟨z104, hz104⟩ : ∃ z : Int32, z = ((own_tb.getD z78.toNatClampNeg 0) + (((p1 >>> ((8 : Int32) &&& 31)) &&& (7 : Int32)) - (3 : Int32))) := ⟨_, rfl⟩
    refine own_step (fun _ => XS.istore X13.here hx rfl (hb hby at_104) rfl (l' := #[.val (.int p0), .val (.int p1), .val (.ref b2), .val (.int z78), .val (.int z104)]) (by subst hz104; rfl)) ?_
    show own_Goes p.tables e below (T13.setTop (mkF m 106 #[.val (.int p0), .val (.int p1), .val (.ref b2), .val (.int z78), .val (.int z104)] [])) _
    have hv : (own_f0 p0 p1) = (own_f0_106 z104) := by subst hz104; subst hz78; exact (if_pos hc82)
    rw [hv]
    exact J106 T13 X13 e13 z104
  · refine own_step (fun _ => XS.icmpNo X13.here hx rfl (hb hby at_82) rfl (Jvm.Free.XT.ii_lt_f hc82)) ?_
    show own_Goes p.tables e below (T13.setTop (mkF m 85 #[.val (.int p0), .val (.int p1), .val (.ref b2), .val (.int z78), .unset] [])) _
    refine own_step (fun _ => XS.iloadN X13.here hx rfl (hb hby at_85) rfl) ?_
    show own_Goes p.tables e below (T13.setTop (mkF m 86 #[.val (.int p0), .val (.int p1), .val (.ref b2), .val (.int z78), .unset] [(.int p0)])) _
    refine own_step (fun _ => XS.istore X13.here hx rfl (hb hby at_86) rfl (l' := #[.val (.int p0), .val (.int p1), .val (.ref b2), .val (.int z78), .val (.int p0)]) rfl) ?_
    show own_Goes p.tables e below (T13.setTop (mkF m 88 #[.val (.int p0), .val (.int p1), .val (.ref b2), .val (.int z78), .val (.int p0)] [])) _
    refine own_step (fun _ => XS.goto X13.here hx rfl (pc0 := 88) (pc' := 106) rfl (hb hby at_88) (by decide) (by decide)) ?_
    show own_Goes p.tables e below (T13.setTop (mkF m 106 #[.val (.int p0), .val (.int p1), .val (.ref b2), .val (.int z78), .val (.int p0)] [])) _
    have hv : (own_f0 p0 p1) = (own_f0_106 p0) := by subst hz78; exact (if_neg hc82)
    rw [hv]
    exact J106 T13 X13 e13 p0
theorem own_10 : ((1 : Int32) = 0) = False := by decide
theorem own_01 : ((0 : Int32) = 1) = False := by decide
theorem own_ltT {c x : Int32} {k : Int} (h : x.toInt = k) (q : c.toInt < k) : c < x := by rw [Int32.lt_iff_toInt_lt, h]; exact q
theorem own_ltF {c x : Int32} {k : Int} (h : x.toInt = k) (q : ¬ c.toInt < k) : ¬ (c < x) := by rw [Int32.lt_iff_toInt_lt, h]; exact q
theorem own_gtT {c x : Int32} {k : Int} (h : x.toInt = k) (q : k < c.toInt) : x < c := by rw [Int32.lt_iff_toInt_lt, h]; exact q
theorem own_gtF {c x : Int32} {k : Int} (h : x.toInt = k) (q : ¬ k < c.toInt) : ¬ (x < c) := by rw [Int32.lt_iff_toInt_lt, h]; exact q
theorem own_eqT {c x : Int32} {k : Int} (h : x.toInt = k) (q : c.toInt = k) : c = x := by rw [← Int32.toInt_inj, h]; exact q
theorem own_eqF {c x : Int32} {k : Int} (h : x.toInt = k) (q : ¬ c.toInt = k) : ¬ (c = x) := by rw [← Int32.toInt_inj, h]; exact q
theorem own_iv_0 (c : Int32) (h2 : c.toInt ≤ -1) : own_f0_106 c = 1 := by
  have t0 : c < (0 : Int32) := own_ltT (k := 0) rfl (by omega)
  have t1 : c < (32 : Int32) := own_ltT (k := 32) rfl (by omega)
  have t2 : c < (55296 : Int32) := own_ltT (k := 55296) rfl (by omega)
  have t3 : c < (57344 : Int32) := own_ltT (k := 57344) rfl (by omega)
  have t4 : c < (65536 : Int32) := own_ltT (k := 65536) rfl (by omega)
  have t5 : ¬ (c = (9 : Int32)) := own_eqF (k := 9) rfl (by omega)
  have t6 : ¬ (c = (10 : Int32)) := own_eqF (k := 10) rfl (by omega)
  have t7 : ¬ (c = (13 : Int32)) := own_eqF (k := 13) rfl (by omega)
  have t8 : ¬ (c = (65534 : Int32)) := own_eqF (k := 65534) rfl (by omega)
  have t9 : ¬ (c = (65535 : Int32)) := own_eqF (k := 65535) rfl (by omega)
  have t10 : ¬ ((55295 : Int32) < c) := own_gtF (k := 55295) rfl (by omega)
  have t11 : ¬ ((57343 : Int32) < c) := own_gtF (k := 57343) rfl (by omega)
  have t12 : ¬ ((65533 : Int32) < c) := own_gtF (k := 65533) rfl (by omega)
  have t13 : ¬ ((1114111 : Int32) < c) := own_gtF (k := 1114111) rfl (by omega)
  simp only [own_f1_54, own_f1_58, own_f1_42, own_f1_30, own_f1, own_f2_40, own_f2_70, own_f2_28, own_f2, own_f0_124, own_f0_106, t0, t1, t2, t3, t4, t5, t6, t7, t8, t9, t10, t11, t12, t13, own_10, own_01, ↓reduceIte]
theorem own_iv_1 (c : Int32) (h1 : 0 ≤ c.toInt) (h2 : c.toInt ≤ 8) : own_f0_106 c = 1 := by
  have t0 : ¬ (c < (0 : Int32)) := own_ltF (k := 0) rfl (by omega)
  have t1 : c < (32 : Int32) := own_ltT (k := 32) rfl (by omega)
  have t2 : c < (55296 : Int32) := own_ltT (k := 55296) rfl (by omega)
  have t3 : c < (57344 : Int32) := own_ltT (k := 57344) rfl (by omega)
  have t4 : c < (65536 : Int32) := own_ltT (k := 65536) rfl (by omega)
  have t5 : ¬ (c = (9 : Int32)) := own_eqF (k := 9) rfl (by omega)
  have t6 : ¬ (c = (10 : Int32)) := own_eqF (k := 10) rfl (by omega)
  have t7 : ¬ (c = (13 : Int32)) := own_eqF (k := 13) rfl (by omega)
  have t8 : ¬ (c = (65534 : Int32)) := own_eqF (k := 65534) rfl (by omega)
  have t9 : ¬ (c = (65535 : Int32)) := own_eqF (k := 65535) rfl (by omega)
  have t10 : ¬ ((55295 : Int32) < c) := own_gtF (k := 55295) rfl (by omega)
  have t11 : ¬ ((57343 : Int32) < c) := own_gtF (k := 57343) rfl (by omega)
  have t12 : ¬ ((65533 : Int32) < c) := own_gtF (k := 65533) rfl (by omega)
  have t13 : ¬ ((1114111 : Int32) < c) := own_gtF (k := 1114111) rfl (by omega)
  simp only [own_f1_54, own_f1_58, own_f1_42, own_f1_30, own_f1, own_f2_40, own_f2_70, own_f2_28, own_f2, own_f0_124, own_f0_106, t0, t1, t2, t3, t4, t5, t6, t7, t8, t9, t10, t11, t12, t13, own_10, own_01, ↓reduceIte]
theorem own_iv_2 (c : Int32) (h1 : 9 ≤ c.toInt) (h2 : c.toInt ≤ 9) : own_f0_106 c = 1 := by
  have e : c = (9 : Int32) := own_eqT (k := 9) rfl (by omega)
  subst e
  decide +kernel
theorem own_iv_3 (c : Int32) (h1 : 10 ≤ c.toInt) (h2 : c.toInt ≤ 10) : own_f0_106 c = 1 := by
  have e : c = (10 : Int32) := own_eqT (k := 10) rfl (by omega)
  subst e
  decide +kernel
theorem own_iv_4 (c : Int32) (h1 : 11 ≤ c.toInt) (h2 : c.toInt ≤ 12) : own_f0_106 c = 1 := by
  have t0 : ¬ (c < (0 : Int32)) := own_ltF (k := 0) rfl (by omega)
  have t1 : c < (32 : Int32) := own_ltT (k := 32) rfl (by omega)
  have t2 : c < (55296 : Int32) := own_ltT (k := 55296) rfl (by omega)
  have t3 : c < (57344 : Int32) := own_ltT (k := 57344) rfl (by omega)
  have t4 : c < (65536 : Int32) := own_ltT (k := 65536) rfl (by omega)
  have t5 : ¬ (c = (9 : Int32)) := own_eqF (k := 9) rfl (by omega)
  have t6 : ¬ (c = (10 : Int32)) := own_eqF (k := 10) rfl (by omega)
  have t7 : ¬ (c = (13 : Int32)) := own_eqF (k := 13) rfl (by omega)
  have t8 : ¬ (c = (65534 : Int32)) := own_eqF (k := 65534) rfl (by omega)
  have t9 : ¬ (c = (65535 : Int32)) := own_eqF (k := 65535) rfl (by omega)
  have t10 : ¬ ((55295 : Int32) < c) := own_gtF (k := 55295) rfl (by omega)
  have t11 : ¬ ((57343 : Int32) < c) := own_gtF (k := 57343) rfl (by omega)
  have t12 : ¬ ((65533 : Int32) < c) := own_gtF (k := 65533) rfl (by omega)
  have t13 : ¬ ((1114111 : Int32) < c) := own_gtF (k := 1114111) rfl (by omega)
  simp only [own_f1_54, own_f1_58, own_f1_42, own_f1_30, own_f1, own_f2_40, own_f2_70, own_f2_28, own_f2, own_f0_124, own_f0_106, t0, t1, t2, t3, t4, t5, t6, t7, t8, t9, t10, t11, t12, t13, own_10, own_01, ↓reduceIte]
theorem own_iv_5 (c : Int32) (h1 : 13 ≤ c.toInt) (h2 : c.toInt ≤ 13) : own_f0_106 c = 1 := by
  have e : c = (13 : Int32) := own_eqT (k := 13) rfl (by omega)
  subst e
  decide +kernel
theorem own_iv_6 (c : Int32) (h1 : 14 ≤ c.toInt) (h2 : c.toInt ≤ 31) : own_f0_106 c = 1 := by
  have t0 : ¬ (c < (0 : Int32)) := own_ltF (k := 0) rfl (by omega)
  have t1 : c < (32 : Int32) := own_ltT (k := 32) rfl (by omega)
  have t2 : c < (55296 : Int32) := own_ltT (k := 55296) rfl (by omega)
  have t3 : c < (57344 : Int32) := own_ltT (k := 57344) rfl (by omega)
  have t4 : c < (65536 : Int32) := own_ltT (k := 65536) rfl (by omega)
  have t5 : ¬ (c = (9 : Int32)) := own_eqF (k := 9) rfl (by omega)
  have t6 : ¬ (c = (10 : Int32)) := own_eqF (k := 10) rfl (by omega)
  have t7 : ¬ (c = (13 : Int32)) := own_eqF (k := 13) rfl (by omega)
  have t8 : ¬ (c = (65534 : Int32)) := own_eqF (k := 65534) rfl (by omega)
  have t9 : ¬ (c = (65535 : Int32)) := own_eqF (k := 65535) rfl (by omega)
  have t10 : ¬ ((55295 : Int32) < c) := own_gtF (k := 55295) rfl (by omega)
  have t11 : ¬ ((57343 : Int32) < c) := own_gtF (k := 57343) rfl (by omega)
  have t12 : ¬ ((65533 : Int32) < c) := own_gtF (k := 65533) rfl (by omega)
  have t13 : ¬ ((1114111 : Int32) < c) := own_gtF (k := 1114111) rfl (by omega)
  simp only [own_f1_54, own_f1_58, own_f1_42, own_f1_30, own_f1, own_f2_40, own_f2_70, own_f2_28, own_f2, own_f0_124, own_f0_106, t0, t1, t2, t3, t4, t5, t6, t7, t8, t9, t10, t11, t12, t13, own_10, own_01, ↓reduceIte]
theorem own_iv_7 (c : Int32) (h1 : 32 ≤ c.toInt) (h2 : c.toInt ≤ 55295) : own_f0_106 c = 1 := by
  have t0 : ¬ (c < (0 : Int32)) := own_ltF (k := 0) rfl (by omega)
  have t1 : ¬ (c < (32 : Int32)) := own_ltF (k := 32) rfl (by omega)
  have t2 : c < (55296 : Int32) := own_ltT (k := 55296) rfl (by omega)
  have t3 : c < (57344 : Int32) := own_ltT (k := 57344) rfl (by omega)
  have t4 : c < (65536 : Int32) := own_ltT (k := 65536) rfl (by omega)
  have t5 : ¬ (c = (9 : Int32)) := own_eqF (k := 9) rfl (by omega)
  have t6 : ¬ (c = (10 : Int32)) := own_eqF (k := 10) rfl (by omega)
  have t7 : ¬ (c = (13 : Int32)) := own_eqF (k := 13) rfl (by omega)
  have t8 : ¬ (c = (65534 : Int32)) := own_eqF (k := 65534) rfl (by omega)
  have t9 : ¬ (c = (65535 : Int32)) := own_eqF (k := 65535) rfl (by omega)
  have t10 : ¬ ((55295 : Int32) < c) := own_gtF (k := 55295) rfl (by omega)
  have t11 : ¬ ((57343 : Int32) < c) := own_gtF (k := 57343) rfl (by omega)
  have t12 : ¬ ((65533 : Int32) < c) := own_gtF (k := 65533) rfl (by omega)
  have t13 : ¬ ((1114111 : Int32) < c) := own_gtF (k := 1114111) rfl (by omega)
  simp only [own_f1_54, own_f1_58, own_f1_42, own_f1_30, own_f1, own_f2_40, own_f2_70, own_f2_28, own_f2, own_f0_124, own_f0_106, t0, t1, t2, t3, t4, t5, t6, t7, t8, t9, t10, t11, t12, t13, own_10, own_01, ↓reduceIte]
theorem own_iv_8 (c : Int32) (h1 : 55296 ≤ c.toInt) (h2 : c.toInt ≤ 57343) : own_f0_106 c = 1 := by
  have t0 : ¬ (c < (0 : Int32)) := own_ltF (k := 0) rfl (by omega)
  have t1 : ¬ (c < (32 : Int32)) := own_ltF (k := 32) rfl (by omega)
  have t2 : ¬ (c < (55296 : Int32)) := own_ltF (k := 55296) rfl (by omega)
  have t3 : c < (57344 : Int32) := own_ltT (k := 57344) rfl (by omega)
  have t4 : c < (65536 : Int32) := own_ltT (k := 65536) rfl (by omega)
  have t5 : ¬ (c = (9 : Int32)) := own_eqF (k := 9) rfl (by omega)
  have t6 : ¬ (c = (10 : Int32)) := own_eqF (k := 10) rfl (by omega)
  have t7 : ¬ (c = (13 : Int32)) := own_eqF (k := 13) rfl (by omega)
  have t8 : ¬ (c = (65534 : Int32)) := own_eqF (k := 65534) rfl (by omega)
  have t9 : ¬ (c = (65535 : Int32)) := own_eqF (k := 65535) rfl (by omega)
  have t10 : (55295 : Int32) < c := own_gtT (k := 55295) rfl (by omega)
  have t11 : ¬ ((57343 : Int32) < c) := own_gtF (k := 57343) rfl (by omega)
  have t12 : ¬ ((65533 : Int32) < c) := own_gtF (k := 65533) rfl (by omega)
  have t13 : ¬ ((1114111 : Int32) < c) := own_gtF (k := 1114111) rfl (by omega)
  simp only [own_f1_54, own_f1_58, own_f1_42, own_f1_30, own_f1, own_f2_40, own_f2_70, own_f2_28, own_f2, own_f0_124, own_f0_106, t0, t1, t2, t3, t4, t5, t6, t7, t8, t9, t10, t11, t12, t13, own_10, own_01, ↓reduceIte]
theorem own_iv_9 (c : Int32) (h1 : 57344 ≤ c.toInt) (h2 : c.toInt ≤ 65533) : own_f0_106 c = 1 := by
  have t0 : ¬ (c < (0 : Int32)) := own_ltF (k := 0) rfl (by omega)
  have t1 : ¬ (c < (32 : Int32)) := own_ltF (k := 32) rfl (by omega)
  have t2 : ¬ (c < (55296 : Int32)) := own_ltF (k := 55296) rfl (by omega)
  have t3 : ¬ (c < (57344 : Int32)) := own_ltF (k := 57344) rfl (by omega)
  have t4 : c < (65536 : Int32) := own_ltT (k := 65536) rfl (by omega)
  have t5 : ¬ (c = (9 : Int32)) := own_eqF (k := 9) rfl (by omega)
  have t6 : ¬ (c = (10 : Int32)) := own_eqF (k := 10) rfl (by omega)
  have t7 : ¬ (c = (13 : Int32)) := own_eqF (k := 13) rfl (by omega)
  have t8 : ¬ (c = (65534 : Int32)) := own_eqF (k := 65534) rfl (by omega)
  have t9 : ¬ (c = (65535 : Int32)) := own_eqF (k := 65535) rfl (by omega)
  have t10 : (55295 : Int32) < c := own_gtT (k := 55295) rfl (by omega)
  have t11 : (57343 : Int32) < c := own_gtT (k := 57343) rfl (by omega)
  have t12 : ¬ ((65533 : Int32) < c) := own_gtF (k := 65533) rfl (by omega)
  have t13 : ¬ ((1114111 : Int32) < c) := own_gtF (k := 1114111) rfl (by omega)
  simp only [own_f1_54, own_f1_58, own_f1_42, own_f1_30, own_f1, own_f2_40, own_f2_70, own_f2_28, own_f2, own_f0_124, own_f0_106, t0, t1, t2, t3, t4, t5, t6, t7, t8, t9, t10, t11, t12, t13, own_10, own_01, ↓reduceIte]
theorem own_iv_10 (c : Int32) (h1 : 65534 ≤ c.toInt) (h2 : c.toInt ≤ 65534) : own_f0_106 c = 1 := by
  have e : c = (65534 : Int32) := own_eqT (k := 65534) rfl (by omega)
  subst e
  decide +kernel
theorem own_iv_11 (c : Int32) (h1 : 65535 ≤ c.toInt) (h2 : c.toInt ≤ 65535) : own_f0_106 c = 1 := by
  have e : c = (65535 : Int32) := own_eqT (k := 65535) rfl (by omega)
  subst e
  decide +kernel
theorem own_iv_12 (c : Int32) (h1 : 65536 ≤ c.toInt) (h2 : c.toInt ≤ 1114111) : own_f0_106 c = 1 := by
  have t0 : ¬ (c < (0 : Int32)) := own_ltF (k := 0) rfl (by omega)
  have t1 : ¬ (c < (32 : Int32)) := own_ltF (k := 32) rfl (by omega)
  have t2 : ¬ (c < (55296 : Int32)) := own_ltF (k := 55296) rfl (by omega)
  have t3 : ¬ (c < (57344 : Int32)) := own_ltF (k := 57344) rfl (by omega)
  have t4 : ¬ (c < (65536 : Int32)) := own_ltF (k := 65536) rfl (by omega)
  have t5 : ¬ (c = (9 : Int32)) := own_eqF (k := 9) rfl (by omega)
  have t6 : ¬ (c = (10 : Int32)) := own_eqF (k := 10) rfl (by omega)
  have t7 : ¬ (c = (13 : Int32)) := own_eqF (k := 13) rfl (by omega)
  have t8 : ¬ (c = (65534 : Int32)) := own_eqF (k := 65534) rfl (by omega)
  have t9 : ¬ (c = (65535 : Int32)) := own_eqF (k := 65535) rfl (by omega)
  have t10 : (55295 : Int32) < c := own_gtT (k := 55295) rfl (by omega)
  have t11 : (57343 : Int32) < c := own_gtT (k := 57343) rfl (by omega)
  have t12 : (65533 : Int32) < c := own_gtT (k := 65533) rfl (by omega)
  have t13 : ¬ ((1114111 : Int32) < c) := own_gtF (k := 1114111) rfl (by omega)
  simp only [own_f1_54, own_f1_58, own_f1_42, own_f1_30, own_f1, own_f2_40, own_f2_70, own_f2_28, own_f2, own_f0_124, own_f0_106, t0, t1, t2, t3, t4, t5, t6, t7, t8, t9, t10, t11, t12, t13, own_10, own_01, ↓reduceIte]
theorem own_iv_13 (c : Int32) (h1 : 1114112 ≤ c.toInt) : own_f0_106 c = 1 := by
  have t0 : ¬ (c < (0 : Int32)) := own_ltF (k := 0) rfl (by omega)
  have t1 : ¬ (c < (32 : Int32)) := own_ltF (k := 32) rfl (by omega)
  have t2 : ¬ (c < (55296 : Int32)) := own_ltF (k := 55296) rfl (by omega)
  have t3 : ¬ (c < (57344 : Int32)) := own_ltF (k := 57344) rfl (by omega)
  have t4 : ¬ (c < (65536 : Int32)) := own_ltF (k := 65536) rfl (by omega)
  have t5 : ¬ (c = (9 : Int32)) := own_eqF (k := 9) rfl (by omega)
  have t6 : ¬ (c = (10 : Int32)) := own_eqF (k := 10) rfl (by omega)
  have t7 : ¬ (c = (13 : Int32)) := own_eqF (k := 13) rfl (by omega)
  have t8 : ¬ (c = (65534 : Int32)) := own_eqF (k := 65534) rfl (by omega)
  have t9 : ¬ (c = (65535 : Int32)) := own_eqF (k := 65535) rfl (by omega)
  have t10 : (55295 : Int32) < c := own_gtT (k := 55295) rfl (by omega)
  have t11 : (57343 : Int32) < c := own_gtT (k := 57343) rfl (by omega)
  have t12 : (65533 : Int32) < c := own_gtT (k := 65533) rfl (by omega)
  have t13 : (1114111 : Int32) < c := own_gtT (k := 1114111) rfl (by omega)
  simp only [own_f1_54, own_f1_58, own_f1_42, own_f1_30, own_f1, own_f2_40, own_f2_70, own_f2_28, own_f2, own_f0_124, own_f0_106, t0, t1, t2, t3, t4, t5, t6, t7, t8, t9, t10, t11, t12, t13, own_10, own_01, ↓reduceIte]
theorem own_iv (c : Int32) : own_f0_106 c = 1 := by
  by_cases b0 : c.toInt ≤ -1
  · exact own_iv_0 c b0
  by_cases b1 : c.toInt ≤ 8
  · exact own_iv_1 c (by omega) b1
  by_cases b2 : c.toInt ≤ 9
  · exact own_iv_2 c (by omega) b2
  by_cases b3 : c.toInt ≤ 10
  · exact own_iv_3 c (by omega) b3
  by_cases b4 : c.toInt ≤ 12
  · exact own_iv_4 c (by omega) b4
  by_cases b5 : c.toInt ≤ 13
  · exact own_iv_5 c (by omega) b5
  by_cases b6 : c.toInt ≤ 31
  · exact own_iv_6 c (by omega) b6
  by_cases b7 : c.toInt ≤ 55295
  · exact own_iv_7 c (by omega) b7
  by_cases b8 : c.toInt ≤ 57343
  · exact own_iv_8 c (by omega) b8
  by_cases b9 : c.toInt ≤ 65533
  · exact own_iv_9 c (by omega) b9
  by_cases b10 : c.toInt ≤ 65534
  · exact own_iv_10 c (by omega) b10
  by_cases b11 : c.toInt ≤ 65535
  · exact own_iv_11 c (by omega) b11
  by_cases b12 : c.toInt ≤ 1114111
  · exact own_iv_12 c (by omega) b12
  exact own_iv_13 c (by omega)
theorem own_law (p0 : Int32) (p1 : Int32) : own_f0 p0 p1 = 1 := by
  unfold own_f0
  simp only [own_iv, ite_self]
set_option maxRecDepth 65536 in
set_option maxHeartbeats 40000000 in
theorem comes_1 {Post : Tables → Env → Array Value → State → Outcome → State → Prop} (hpost : ∀ tb e args s v u, (limb_1_1.after args s (.returned v) u = true ∧ limb_1_2.after args s (.returned v) u = true ∧ True) → FrameEnd s (.returned v) u (Jvm.fieldLocs frame_1_writes args s ++ Jvm.arrayLocs frame_1_arrays args s ++ Jvm.staticLocs frame_1_statics s) 16 128 → Post tb e args s (.returned v) u) :
    ArmFor flags0 classFile x code maxLocals ret World_1 tables_1 room_1 Calls_1 rest_1 Pre_1 Post := by
  intro l hfl _ _ p e ha hc hk s m args below hf hA hF happ hP
  obtain ⟨hcalls, hrest, hpre⟩ := hP
  obtain ⟨-, -, -, hnamed, -, -, -, hat⟩ := (Spec.applies_iff hf).mp happ
  obtain ⟨hg, hn⟩ := and_e (Cond.before_iff.mp (show (Jvm.Cond.and given_1 narrow_1).before args s = true from hpre))
  obtain ⟨g1, g2⟩ := and_e hg
  obtain ⟨g3, g4⟩ := and_e g2
  obtain ⟨w0, w1, rfl⟩ : ∃ w0 w1 : Value, args = #[w0, w1] := by
    have hs : args.size = 2 := by simpa [Cond.value, given_1] using g1
    obtain ⟨L⟩ := args
    match L, hs with
    | [w0, w1], _ => exact ⟨w0, w1, rfl⟩
  have hw := fun d (hd : d ∈ tables_1) => atoms_spec (ws := Jvm.Cond.code x code maxLocals ret :: tables_1) hat d (List.mem_cons_of_mem _ hd)
  obtain ⟨i0, ei0⟩ := is_v g3
  obtain rfl : w0 = (.int i0) := Option.some.inj ei0
  obtain ⟨i1, ei1⟩ := is_v g4
  obtain rfl : w1 = (.int i1) := Option.some.inj ei1
  have hrm := rm0 l s _ hw tables_1 i0 i1 s.heap s.heap.size (Nat.le_refl _)
  rw [own_law i0 i1] at hrm
  obtain ⟨n, o, h1, h2, h3, _, L, rfl, ⟨rfl, N⟩, hq⟩ := hrm p e ha hc hk s m _ below hf ((Spec.applies_iff_loose hf).mp happ).1 ⟨rfl, State.Warmed39.refl s, rfl⟩ trivial
  refine ⟨n, _, h1, h2, h3, hpost _ _ _ _ _ _ ⟨Cond.after_iff.mpr rfl, Cond.after_iff.mpr (eq_i res_at (Term.int_eval (1)) rfl), trivial⟩ ⟨hq.1, hq.2.1, (hq.2.2.sift fun y hy => Or.inr (N y hy)).mono (by decide) (by decide)⟩⟩
theorem main_1_1 : Claimed_1_1 := comes_1 fun _ _ _ _ _ _ h hF => ⟨h.1, hF⟩
theorem main_1_2 : Claimed_1_2 := comes_1 fun _ _ _ _ _ _ h hF => ⟨h.2.1, hF⟩
end Jvm.Pilot.@@N@@
namespace Jvm.Pilot.@@N@@
open Jvm Jvm.ClassFile Sem Op Lib Jvm.Free Jvm.Stand Jvm.Pilot.@@N@@.Jvm.D
/-! MADE BY PROGRAM (witnessworld.py) out of the Statement's table words and the real class files: 9 classes; the members and pool entries that the words name. The judged class is class 1, her method 2. -/
namespace start1
open Jvm.ClassFile
def u (s : String) : CpInfo := .utf8 (stringToUtf16 s)
/-- a pool by its gaps: so many unusable entries, then the entry; so many at the end -/
def gap : Nat → List CpInfo → List CpInfo
  | 0, r => r
  | n + 1, r => .unusable :: gap n r
def poolList (es : List (Nat × CpInfo)) (last : Nat) : List CpInfo := es.foldr (fun e r => gap e.1 (e.2 :: r)) (gap last [])
def pool (es : List (Nat × CpInfo)) (last : Nat) : Array CpInfo := ⟨poolList es last⟩
def fileOf (pool : Array CpInfo) (this : Nat) (attrs : Array Attribute := #[]) (ms : Array MethodInfo := #[]) (fl : Nat := 33) (sup : Nat := 0) (ifs : Array Nat := #[]) (fds : Array FieldInfo := #[]) : ClassFile where
  minorVersion := 0
  majorVersion := 65
  constantPool := pool
  accessFlags := fl
  thisClass := this
  superClass := sup
  interfaces := ifs
  fields := fds
  methods := ms
  attributes := attrs
def plain (name : String) (sup : Option ClassId) : Class where
  name := name
  kind := .ordinary
  loader := none
  accessFlags := 33
  super := sup
  interfaces := #[]
  cf := none
  fields := #[]
  methods := #[]
  instanceTypes := #[]
  staticTypes := #[]
  resolved := #[]
  callSites := []
  init := .initialized
  statics := none
  mirror := none

def pool0 : Array CpInfo := pool [(5, u "<init>"), (0, u "()V"), (1, .class_ 10), (1, u "java/lang/Object")] 113

def k0m0 : Method := { name := "<init>", desc := "()V", sig := { parameters := [], returnType := none }, accessFlags := 1, code := none }
/-- java/lang/Object -/
def k0 : Class := { plain "java/lang/Object" none with
  accessFlags := 33
  interfaces := #[]
  cf := some (fileOf pool0 8 #[] #[{ accessFlags := 1, nameIndex := 5, descriptorIndex := 6, attributes := #[] }] 33 0 #[] #[])
  fields := #[]
  methods := #[k0m0]
  instanceTypes := #[]
  staticTypes := #[]
  resolved := Array.replicate 124 none
  statics := none }

def pool1 : Array CpInfo := pool [(2, .class_ 4), (1, u "java/lang/Object"), (0, u "<init>"), (0, u "()V"), (0, .integer 1114111), (0, .integer 55296), (0, .integer 57343), (0, .integer 65534), (0, .integer 65535), (0, .integer 55295), (0, .integer 57344), (0, .integer 65533), (0, .integer 65536), (2, .integer 2147483648), (0, .integer 2147483647), (0, .methodref 21 22), (0, .class_ 23), (0, .nameAndType 24 25), (0, u "com/example/unnest/unnest/xml/XmlChars"), (0, u "isXmlChar"), (0, u "(I)Z"), (0, .methodref 27 28), (0, .class_ 29), (0, .nameAndType 30 25), (0, u "com/example/unnest/unnest/xml/XmlCharsIsXmlCharPinLaw"), (0, u "excluded"), (3, u "law"), (0, u "(II)Z")] 4

def k1m0 : Method := { name := "<init>", desc := "()V", sig := { parameters := [], returnType := none }, accessFlags := 2, code := none }
def k1c1 : Code := { maxStack := 2, maxLocals := 1, code := method_2_code, exceptionTable := #[], attributes := #[] }
def k1m1 : Method := { name := "excluded", desc := "(I)Z", sig := { parameters := [.int], returnType := some .boolean }, accessFlags := 10, code := some k1c1 }
def k1c2 : Code := { maxStack := 4, maxLocals := 5, code := code, exceptionTable := #[], attributes := #[] }
def k1m2 : Method := { name := "law", desc := "(II)Z", sig := { parameters := [.int, .int], returnType := some .boolean }, accessFlags := 9, code := some k1c2 }
/-- com/example/unnest/unnest/xml/XmlCharsIsXmlCharPinLaw -/
def k1 : Class := { plain "com/example/unnest/unnest/xml/XmlCharsIsXmlCharPinLaw" (some 0) with
  accessFlags := 49
  interfaces := #[]
  cf := some (fileOf pool1 27 #[] #[{ accessFlags := 2, nameIndex := 5, descriptorIndex := 6, attributes := #[] }, { accessFlags := 10, nameIndex := 30, descriptorIndex := 25, attributes := #[] }, { accessFlags := 9, nameIndex := 34, descriptorIndex := 35, attributes := #[] }] 49 2 #[] #[])
  fields := #[]
  methods := #[k1m0, k1m1, k1m2]
  instanceTypes := #[]
  staticTypes := #[]
  resolved := Array.replicate 40 none
  statics := none }

def pool2 : Array CpInfo := pool [(2, .class_ 4), (1, u "java/lang/Object"), (0, u "<init>"), (0, u "()V"), (0, .integer 55295), (3, .integer 65533), (0, .integer 65536), (2, .class_ 17), (1, u "com/example/unnest/unnest/xml/XmlChars"), (1, u "(I)Z"), (58, .integer 57344), (0, .integer 1114111), (9, u "isXmlChar")] 4

def k2m0 : Method := { name := "<init>", desc := "()V", sig := { parameters := [], returnType := none }, accessFlags := 2, code := none }
def k2c1 : Code := { maxStack := 2, maxLocals := 1, code := prog_142_method_9_code, exceptionTable := #[], attributes := #[] }
def k2m1 : Method := { name := "isXmlChar", desc := "(I)Z", sig := { parameters := [.int], returnType := some .boolean }, accessFlags := 9, code := some k2c1 }
/-- com/example/unnest/unnest/xml/XmlChars -/
def k2 : Class := { plain "com/example/unnest/unnest/xml/XmlChars" (some 0) with
  accessFlags := 49
  interfaces := #[]
  cf := some (fileOf pool2 15 #[] #[{ accessFlags := 2, nameIndex := 5, descriptorIndex := 6, attributes := #[] }, { accessFlags := 9, nameIndex := 89, descriptorIndex := 19, attributes := #[] }] 49 2 #[] #[])
  fields := #[]
  methods := #[k2m0, k2m1]
  instanceTypes := #[]
  staticTypes := #[]
  resolved := Array.replicate 94 none
  statics := none }

def pool3 : Array CpInfo := pool [(1, u "java/lang/Cloneable"), (0, .class_ 1), (0, u "java/lang/Object"), (0, .class_ 3)] 3

/-- java/lang/Cloneable -/
def k3 : Class := { plain "java/lang/Cloneable" (some 0) with
  accessFlags := 1537
  interfaces := #[]
  cf := some (fileOf pool3 2 #[] #[] 1537 4 #[] #[])
  fields := #[]
  methods := #[]
  instanceTypes := #[]
  staticTypes := #[]
  resolved := Array.replicate 8 none
  statics := none }

def pool4 : Array CpInfo := pool [(1, u "java/io/Serializable"), (0, .class_ 1), (0, u "java/lang/Object"), (0, .class_ 3)] 3

/-- java/io/Serializable -/
def k4 : Class := { plain "java/io/Serializable" (some 0) with
  accessFlags := 1537
  interfaces := #[]
  cf := some (fileOf pool4 2 #[] #[] 1537 4 #[] #[])
  fields := #[]
  methods := #[]
  instanceTypes := #[]
  staticTypes := #[]
  resolved := Array.replicate 8 none
  statics := none }

/-- the primitive byte -/
def k5 : Class := { plain "byte" none with kind := .primitive 'B', accessFlags := 0x411 }
/-- [B -/
def k6 : Class := { plain "[B" (some 0) with kind := .array 5 .byte, interfaces := #[3, 4], accessFlags := 1041 }

/-- the primitive int -/
def k7 : Class := { plain "int" none with kind := .primitive 'I', accessFlags := 0x411 }
/-- [I -/
def k8 : Class := { plain "[I" (some 0) with kind := .array 7 .int, interfaces := #[3, 4], accessFlags := 1041 }

def heap : Heap := #[]
def classes : Array Class := #[k0, k1, k2, k3, k4, k5, k6, k7, k8]
def interned : List (Array UInt16 × Addr) := []
def slotsUsed : Nat := 0
def theMethod : MethodId := ⟨1, 2⟩
def args0 : Array Value := #[.int 1, .int 2]
def aboutOver (below : List Frame) : State where
  vm := { classes := classes, interned := interned.toArray }
  heap := heap
  slotsUsed := slotsUsed
  threads := #[{ frames := .invoking theMethod args0 :: below }]
def below0 : List Frame := [.native { method := ⟨0, 0⟩, args := #[] }]
def about1 : State := aboutOver below0
def p0 : Program := .bare "" "" ""
def e0 : Env := launch0.env 0 0 0
theorem w_frames : about1.frames = Frame.invoking theMethod args0 :: below0 := rfl
set_option maxRecDepth 65536 in
theorem w_args : argsFit about1.vm theMethod args0 = true := by decide +kernel
set_option maxRecDepth 65536 in
theorem w_heap : heapFits about1 = true := by decide +kernel
set_option maxRecDepth 65536 in
theorem w_runnable : about1.curStatus? = some .runnable := by decide +kernel
set_option maxRecDepth 65536 in
theorem w_alone : about1.alone = true := by decide +kernel
set_option maxRecDepth 65536 in
theorem w_named : about1.methodNamed? x = some theMethod := by decide +kernel
set_option maxRecDepth 65536 in
theorem w_hears : about1.hears theMethod below0 = true := by decide +kernel
set_option maxRecDepth 65536 in
theorem w_ripe : about1.ripe theMethod args0 below0 = true := by decide +kernel
theorem w_running : about1.status = .running := rfl
set_option maxRecDepth 65536 in
theorem w_room : about1.hasRoom e0.platform room_1 = true :=
  launch0.hasRoom_least _ room_1 (by decide +kernel) (by decide +kernel) (by decide +kernel) (by decide +kernel) (by decide +kernel) (by decide +kernel)
theorem allAtoms_all (ts : List Jvm.Cond) (a : Array Jvm.Value) (st : Jvm.State) : (allAtoms ts).before a st = ts.all (fun c => c.before a st) := by
  induction ts with
  | nil => rfl
  | cons c t ih =>
    show (Jvm.Cond.and c (allAtoms t)).before a st = _
    rw [Jvm.Cond.before_and, ih, List.all_cons]
def words1 : List Jvm.Cond := Jvm.Cond.code x code maxLocals ret :: tables_1
/-- a 'code' word, met by the world's own term for the bytes: nothing is compared byte by byte -/
theorem code_word {y : MethodName} {bytes : ByteArray} {mx : Nat} {rt : Option FieldType} {a : Array Value} {s : State} {m : MethodId} {meth : Method} {c : Code} (h1 : s.methodNamed? y = some m) (h2 : s.vm.method? m = some meth) (h3 : meth.code = some c) (h4 : c.code = bytes)
    (h5 : (c.maxLocals == mx && c.exceptionTable.isEmpty && decide (c.maxStack ≤ mostOperands) && decide (meth.sig.returnType = rt) && !meth.locks && decide (parseMethodDescriptor y.desc = some meth.sig)) = true) : (Jvm.Cond.code y bytes mx rt).before a s = true := by
  simp only [Bool.and_eq_true, beq_iff_eq, Bool.not_eq_true', decide_eq_true_eq] at h5
  obtain ⟨⟨⟨⟨⟨g1, g2⟩, g3⟩, g4⟩, g5⟩, g6⟩ := h5
  simp [Cond.before, Cond.holds, Cond.value, h1, h2, h3, h4, g1, g2, g3, g4, g5, g6]
def isCode : Jvm.Cond → Bool
  | .code _ _ _ _ => true
  | _ => false
theorem all_split {L : List Jvm.Cond} {P : Jvm.Cond → Bool} (h1 : L.all (fun c => isCode c || P c) = true) (h2 : ∀ c ∈ L.filter isCode, P c = true) : L.all P = true := by
  refine List.all_eq_true.mpr fun c hc => ?_
  have h := List.all_eq_true.mp h1 c hc
  rcases Bool.eq_false_or_eq_true (isCode c) with hi | hi
  · exact h2 c (List.mem_filter.mpr ⟨hc, hi⟩)
  · simpa [hi] using h
set_option maxRecDepth 65536 in
theorem w_c0 : (Jvm.Cond.code x code maxLocals ret).before args0 about1 = true := code_word (m := ⟨1, 2⟩) (meth := k1m2) (c := k1c2) (by decide +kernel) rfl rfl rfl (by decide +kernel)
set_option maxRecDepth 65536 in
theorem w_c1 : (Jvm.Cond.code ({ cls := "com/example/unnest/unnest/xml/XmlChars", name := "isXmlChar", desc := "(I)Z" } : Jvm.MethodName) prog_142_method_9_code (1 : Nat) (Option.some Jvm.ClassFile.FieldType.boolean)).before args0 about1 = true := code_word (m := ⟨2, 1⟩) (meth := k2m1) (c := k2c1) (by decide +kernel) rfl rfl rfl (by decide +kernel)
set_option maxRecDepth 65536 in
theorem w_c2 : (Jvm.Cond.code ({ cls := "com/example/unnest/unnest/xml/XmlCharsIsXmlCharPinLaw", name := "excluded", desc := "(I)Z" } : Jvm.MethodName) method_2_code (1 : Nat) (Option.some Jvm.ClassFile.FieldType.boolean)).before args0 about1 = true := code_word (m := ⟨1, 1⟩) (meth := k1m1) (c := k1c1) (by decide +kernel) rfl rfl rfl (by decide +kernel)
def codes1 : List Jvm.Cond := [Jvm.Cond.code x code maxLocals ret, Jvm.Cond.code ({ cls := "com/example/unnest/unnest/xml/XmlChars", name := "isXmlChar", desc := "(I)Z" } : Jvm.MethodName) prog_142_method_9_code (1 : Nat) (Option.some Jvm.ClassFile.FieldType.boolean), Jvm.Cond.code ({ cls := "com/example/unnest/unnest/xml/XmlCharsIsXmlCharPinLaw", name := "excluded", desc := "(I)Z" } : Jvm.MethodName) method_2_code (1 : Nat) (Option.some Jvm.ClassFile.FieldType.boolean)]
set_option maxRecDepth 65536 in
theorem codes_eq : words1.filter isCode = codes1 := rfl
theorem w_codes : ∀ c ∈ words1.filter isCode, c.before args0 about1 = true := by
  rw [codes_eq]
  intro c hc
  simp only [codes1, List.mem_cons, List.not_mem_nil, or_false] at hc
  rcases hc with rfl | rfl | rfl
  · exact w_c0
  · exact w_c1
  · exact w_c2
set_option maxRecDepth 65536 in
theorem w_t1 : (words1.take 24).all (fun c => isCode c || c.before args0 about1) = true := by decide +kernel
set_option maxRecDepth 65536 in
theorem w_t2 : (words1.drop 24).all (fun c => isCode c || c.before args0 about1) = true := by decide +kernel
theorem w_tables : (allAtoms (Jvm.Cond.code x code maxLocals ret :: tables_1)).before args0 about1 = true := by
  rw [allAtoms_all]
  show words1.all (fun c => c.before args0 about1) = true
  refine all_split ?_ w_codes
  rw [← List.take_append_drop 24 words1, List.all_append, w_t1, w_t2]
  rfl
set_option maxRecDepth 65536 in
theorem w_case : (Jvm.Cond.and given_1 narrow_1).before args0 about1 = true := by decide +kernel
theorem w_applies : (headSpec (Jvm.Cond.code x code maxLocals ret :: tables_1) room_1).applies x e0.platform about1 = true :=
  (Spec.applies_iff w_frames).mpr ⟨w_running, w_runnable, w_alone, w_named, w_hears, w_ripe, w_room, w_tables⟩
theorem atStart : AtStart classFile x code maxLocals ret World_1 tables_1 room_1 Calls_1 rest_1 Pre_1 launch0 p0 e0 about1 theMethod args0 below0 :=
  ⟨lists_1, trivial, launch0.admits_env _ _ _, launch0.least_env, fairChoices_fair.cas, fairChoices_fair.clock, w_frames, w_args, w_heap, w_applies, trivial, trivial, w_case⟩
end start1
theorem witness_1 : WitnessClaimed_1 := ⟨start1.p0, start1.e0, start1.about1, start1.theMethod, start1.args0, start1.below0, start1.atStart⟩
end Jvm.Pilot.@@N@@
