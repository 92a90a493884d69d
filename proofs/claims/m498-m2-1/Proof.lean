import JvmDerived
import JvmDerived.Pilot.@@N@@Statement
import JvmDerived.Pilot.@@N@@Code
set_option linter.unusedVariables false
set_option linter.unusedSimpArgs false
@@BLOCK:NumsL.lean.txt@@
namespace Jvm.RoadKit
open Sem ClassFile Op Lib Jvm.Stand Jvm.Free Jvm.LawKit
section New
variable {p : Program} {l : Launch} {e : Env} {R : Room} {s : State} {m : MethodId} {args : Array Value} {below : List Frame} {meth : Method} {c : Code} {T : State} {locs : List Loc} {cells slots : Nat}
theorem retI (X : Stand p l e R s m args below meth c T locs cells slots) (hx : p.tables.exec = Jvm.exec) {pc : Nat} {Ls : Array Slot} {z : Int32} {rest : List Value} (hret : meth.sig.returnType = some .int) (hd : decode c.code pc = .ok (.ireturn, 1)) {fs : List Frame}
    (hl : ∀ (f : JFrame) (acts : List Action), f.method = m → f.locked = none → f.entered = [] → (doReturn e (T.setTop f) acts (some (.int z))).1 = T.setFrames fs) : Steps p.tables e below (T.setTop (mkF m pc Ls (.int z :: rest))) (T.setFrames fs) := by
  have hm' : T.vm.method? m = some meth := X.method'
  have hn : narrow .int (.int z) = .int z := rfl
  show Steps p.tables e below (T.setTop { method := m, pc := pc, locals := Ls, stack := _ :: rest, locked := none }) _
  jvm_step X.here [X.here.top, hx, hd, hm', hret, hn]
  first | (intro acts; rw [hl _ acts rfl rfl rfl]) | rw [hl _ _ rfl rfl rfl]
  exact Steps.refl _
end New
end Jvm.RoadKit
namespace Jvm.Pilot.@@N@@
open Jvm Jvm.ClassFile Sem Op Lib Jvm.Free Jvm.Stand Jvm.LawKit Jvm.RoadKit Bundle Jvm.Pilot.@@N@@.Jvm.D
section Own
variable {p : Program} {l : Launch} {e : Env} {R : Room} {s : State} {m : MethodId} {args : Array Value} {below : List Frame} {meth : Method} {c : Code} {T : State} {locs : List Loc} {cells slots : Nat}
/-- the run goes on from S to its end, and P holds there -/
def own_Goes (tb : Tables) (e : Env) (below : List Frame) (S : State) (P : State → Outcome → Prop) : Prop :=
  ∃ s₂ o, Steps tb e below S s₂ ∧ s₂.status = .running ∧ Ended s₂ below o ∧ P s₂ o
theorem own_step {tb : Tables} {S S' : State} {P : State → Outcome → Prop} (h : ∀ t, Steps tb e below S' t → Steps tb e below S t) (k : own_Goes tb e below S' P) : own_Goes tb e below S P := by
  obtain ⟨s₂, o, h1, h2⟩ := k
  exact ⟨s₂, o, h _ h1, h2⟩
theorem own_enter {tb : Tables} {g g' : JFrame} {P : State → Outcome → Prop} (q : g = g') (k : own_Goes tb e below (T.setTop g') P) : own_Goes tb e below (T.setTop g) P := q ▸ k
def own_P (s : State) (Q : Option Value → Heap → List Loc → Prop) (C K : Nat) : State → Outcome → Prop := fun U o => ∃ v L, o = .returned v ∧ Q v U.heap L ∧ FrameEnd s o U L C K
/-- a body that writes nothing -/
def own_Qp (w : Option Value) (h0 : Heap) (v : Option Value) (h : Heap) (L : List Loc) : Prop := v = w ∧ L = [] ∧ h = h0
/-- a body that makes cells and writes none that stood before -/
def own_Qa (w : Option Value) (h0 : Heap) (n0 : Nat) (v : Option Value) (h : Heap) (L : List Loc) : Prop := v = w ∧ Fr n0 L ∧ Keep h0 h []
/-- the law -/
def own_Ql (w : Option Value) (n0 : Nat) (v : Option Value) (h : Heap) (L : List Loc) : Prop := v = w ∧ Fr n0 L
variable {Q : Option Value → Heap → List Loc → Prop} {C K : Nat}
theorem own_retI (X : Stand p l e R s m args below meth c T locs cells slots) (hx : p.tables.exec = Jvm.exec) {pc : Nat} {Ls : Array Slot} {z : Int32} {rest : List Value} (hret : meth.sig.returnType = some .int) (hd : decode c.code pc = .ok (.ireturn, 1)) (hk : meth.locks = false)
    (hQ : Q (some (.int z)) T.heap locs) (hc : cells ≤ C) (hs : slots ≤ K) : own_Goes p.tables e below (T.setTop (mkF m pc Ls (.int z :: rest))) (own_P s Q C K) := by
  obtain ⟨fs, hr, hrun, hended, hW, hsame⟩ := X.leave (v := some (.int z)) (fun h => by rw [hret] at h; cases h) hk
  exact ⟨_, _, retI X hx hret hd hr, hrun, hended, _, _, rfl, hQ, ⟨_, rfl⟩, hW, hsame.mono hc hs⟩
theorem own_retN (X : Stand p l e R s m args below meth c T locs cells slots) (hx : p.tables.exec = Jvm.exec) {pc : Nat} {Ls : Array Slot} {z : Int32} {t : FieldType} {rest : List Value} (hret : meth.sig.returnType = some t) (ht : t = .boolean ∨ t = .byte ∨ t = .char ∨ t = .short) (hd : decode c.code pc = .ok (.ireturn, 1)) (hk : meth.locks = false)
    {w : Int32} (hw : nar t z = w) (hQ : Q (some (.int w)) T.heap locs) (hc : cells ≤ C) (hs : slots ≤ K) : own_Goes p.tables e below (T.setTop (mkF m pc Ls (.int z :: rest))) (own_P s Q C K) := by
  subst hw
  obtain ⟨fs, hr, hrun, hended, hW, hsame⟩ := X.leave (v := some (.int (nar t z))) (fun h => by rw [hret] at h; cases h) hk
  exact ⟨_, _, retN X hx hret ht hd hr, hrun, hended, _, _, rfl, hQ, ⟨_, rfl⟩, hW, hsame.mono hc hs⟩
theorem own_retJ (X : Stand p l e R s m args below meth c T locs cells slots) (hx : p.tables.exec = Jvm.exec) {pc : Nat} {Ls : Array Slot} {z : Int64} (hret : meth.sig.returnType = some .long) (hd : decode c.code pc = .ok (.lreturn, 1)) (hk : meth.locks = false)
    (hQ : Q (some (.long z)) T.heap locs) (hc : cells ≤ C) (hs : slots ≤ K) : own_Goes p.tables e below (T.setTop (mkF m pc Ls [.long z])) (own_P s Q C K) := by
  obtain ⟨fs, hr, hrun, hended, hW, hsame⟩ := X.leave (v := some (.long z)) (fun h => by rw [hret] at h; cases h) hk
  exact ⟨_, _, X.lreturnOut hx hret hd hr, hrun, hended, _, _, rfl, hQ, ⟨_, rfl⟩, hW, hsame.mono hc hs⟩
theorem own_retV (X : Stand p l e R s m args below meth c T locs cells slots) (hx : p.tables.exec = Jvm.exec) {pc : Nat} {Ls : Array Slot} (hret : meth.sig.returnType = none) (hd : decode c.code pc = .ok (.return_, 1)) (hk : meth.locks = false)
    (hQ : Q none T.heap locs) (hc : cells ≤ C) (hs : slots ≤ K) : own_Goes p.tables e below (T.setTop (mkF m pc Ls [])) (own_P s Q C K) := by
  obtain ⟨fs, hr, hrun, hended, hW, hsame⟩ := X.leave (v := none) (fun _ => rfl) hk
  exact ⟨_, _, X.returnOut hx hret hd hr, hrun, hended, _, _, rfl, hQ, ⟨_, rfl⟩, hW, hsame.mono hc hs⟩
theorem own_flat (X : Stand p l e R s m args below meth c T (locs ++ []) (cells + 0) (slots + 0)) : Stand p l e R s m args below meth c T locs cells slots := List.append_nil locs ▸ X
end Own

section OwnArr
variable {p : Program} {l : Launch} {e : Env} {R : Room} {s : State} {m : MethodId} {args : Array Value} {below : List Frame} {meth : Method} {c : Code} {T : State} {locs : List Loc} {cells slots : Nat} {Z : State} {a0 : Array Value} {h h' : Heap} {a : Addr} {k : ClassId} {ty : FieldType} {n : Int32} {xs : List Int32}
/-- an array of ints (bytes, chars ..) that the road has made: xs are its elements -/
def own_A (Z : State) (h : Heap) (a : Addr) (k : ClassId) (ty : FieldType) (n : Int32) (xs : List Int32) : Prop := Arv Z h a k ty n (xs.map Value.int) (.int 0)
theorem own_A.keep {ws : List Addr} (V : own_A Z h a k ty n xs) (K : Keep h h' ws) (q : a ∉ ws) : own_A Z h' a k ty n xs := Arv.keep V K q
theorem own_newA (X : Stand p l e R s m args below meth c T locs cells slots) (hx : p.tables.exec = Jvm.exec) (hZ : Z.Warmed39 s.vm) {aty : ArrayType} (w : (Jvm.Cond.arrayClass (newarray.typeOf aty)).before a0 Z = true) (eT : T.heap = h) {g : JFrame} (hg : g.method = m) (hd : decode c.code g.pc = .ok (.newarray aty, 2)) {rest : List Value} (hs : g.stack = .int n :: rest)
    (N : Nat) (hn : ¬ n < 0) (hN : n.toNatClampNeg = N) (hb : N * 8 ≤ 536870912) (hc : cells + 1 ≤ R.cells) (hl : slots + N ≤ R.slots) (h0 : defaultValue (newarray.typeOf aty) = .int 0) :
    ∃ T' h' a k, Stand p l e R s m args below meth c T' locs (cells + 1) (slots + N) ∧ T'.heap = h' ∧ Ext h h' ∧ a = h.size ∧ own_A Z h' a k (newarray.typeOf aty) n (List.replicate N 0) ∧
      ∀ target, Steps p.tables e below (T'.setTop { g with pc := g.pc + 2, stack := .ref a :: rest }) target → Steps p.tables e below (T.setTop g) target := by
  obtain ⟨T', h', cA, X', e', E, A, st⟩ := newP X hx hZ w eT hg hd hs hn (cap := N) (Nat.le_of_eq hN) hb hc hl
  refine ⟨T', h', h.size, cA, X', e', E, rfl, ?_, st⟩
  have V := Arv.new A hn
  rw [h0] at V
  have V' := V.pad (pad_rep [] (.int 0) N)
  unfold own_A
  rw [List.map_replicate]
  exact V'
theorem own_setA {j x : Int32} {cl : Cell} (A : Arr Z h a cl ty) (q : cl.cls = k) (S : cl.slots.size = n.toNatClampNeg) (N : ¬ n < 0) (H : Has cl (xs.map Value.int) (.int 0)) (G : ∀ i, i < cl.slots.size → fits ty ((xs.map Value.int).getD i (.int 0)) = true) (hf : fits ty (.int x) = true)
    (W : Wr h h' a j.toNatClampNeg (.int x)) (i : Nat) (hj : j.toNatClampNeg = i) (hi : i < xs.length) : own_A Z h' a k ty n (xs.set i x) := by
  have V := Arv.set A q S N H G hf W i hj (by simpa using hi)
  unfold own_A
  rw [List.map_set]
  exact V
theorem own_stI (X : Stand p l e R s m args below meth c T locs cells slots) (hx : p.tables.exec = Jvm.exec) (hZ : Z.Warmed39 s.vm) (eT : T.heap = h) (V : own_A Z h a k .int n xs) {j x : Int32} (i : Nat) (hj : ¬ j < 0 ∧ j < n) (hi : j.toNatClampNeg = i) (hl : i < xs.length)
    {g : JFrame} (hg : g.method = m) {rest : List Value} (hs : g.stack = .int x :: .int j :: .ref a :: rest) (hd : decode c.code g.pc = .ok (.iastore, 1)) :
    ∃ T' h' L', Stand p l e R s m args below meth c T' L' cells slots ∧ T'.heap = h' ∧ (∀ n0, Fr n0 locs → n0 ≤ a → Fr n0 L') ∧ own_A Z h' a k .int n (xs.set i x) ∧ Wr h h' a j.toNatClampNeg (.int x) ∧
      ∀ target, Steps p.tables e below (T'.setTop { g with pc := g.pc + 1, stack := rest }) target → Steps p.tables e below (T.setTop g) target := by
  obtain ⟨cl, A, q, S, N, H, G⟩ := V
  obtain ⟨T', h', X', e', W, st⟩ := stI X hx hZ eT A (inb_of S hj) hg hs hd
  exact ⟨T', h', _, X', e', fun n0 F q => Fr.snoc X' F q, own_setA A q S N H G rfl W i hi hl, W, st⟩
theorem own_stB (X : Stand p l e R s m args below meth c T locs cells slots) (hx : p.tables.exec = Jvm.exec) (hZ : Z.Warmed39 s.vm) (eT : T.heap = h) (V : own_A Z h a k .byte n xs) {j x : Int32} (i : Nat) (hj : ¬ j < 0 ∧ j < n) (hi : j.toNatClampNeg = i) (hl : i < xs.length)
    {g : JFrame} (hg : g.method = m) {rest : List Value} (hs : g.stack = .int x :: .int j :: .ref a :: rest) (hd : decode c.code g.pc = .ok (.bastore, 1)) :
    ∃ T' h' L', Stand p l e R s m args below meth c T' L' cells slots ∧ T'.heap = h' ∧ (∀ n0, Fr n0 locs → n0 ≤ a → Fr n0 L') ∧ own_A Z h' a k .byte n (xs.set i (nar .byte x)) ∧ Wr h h' a j.toNatClampNeg (.int (nar .byte x)) ∧
      ∀ target, Steps p.tables e below (T'.setTop { g with pc := g.pc + 1, stack := rest }) target → Steps p.tables e below (T.setTop g) target := by
  obtain ⟨cl, A, q, S, N, H, G⟩ := V
  obtain ⟨T', h', X', e', W, st⟩ := stB X hx hZ eT A (inb_of S hj) hg hs hd
  exact ⟨T', h', _, X', e', fun n0 F q => Fr.snoc X' F q, own_setA A q S N H G (fits_nar_byte _) W i hi hl, W, st⟩
theorem own_stC (X : Stand p l e R s m args below meth c T locs cells slots) (hx : p.tables.exec = Jvm.exec) (hZ : Z.Warmed39 s.vm) (eT : T.heap = h) (V : own_A Z h a k .char n xs) {j x : Int32} (i : Nat) (hj : ¬ j < 0 ∧ j < n) (hi : j.toNatClampNeg = i) (hl : i < xs.length)
    {g : JFrame} (hg : g.method = m) {rest : List Value} (hs : g.stack = .int x :: .int j :: .ref a :: rest) (hd : decode c.code g.pc = .ok (.castore, 1)) :
    ∃ T' h' L', Stand p l e R s m args below meth c T' L' cells slots ∧ T'.heap = h' ∧ (∀ n0, Fr n0 locs → n0 ≤ a → Fr n0 L') ∧ own_A Z h' a k .char n (xs.set i (nar .char x)) ∧ Wr h h' a j.toNatClampNeg (.int (nar .char x)) ∧
      ∀ target, Steps p.tables e below (T'.setTop { g with pc := g.pc + 1, stack := rest }) target → Steps p.tables e below (T.setTop g) target := by
  obtain ⟨cl, A, q, S, N, H, G⟩ := V
  obtain ⟨T', h', X', e', W, st⟩ := stC X hx hZ eT A (inb_of S hj) hg hs hd
  exact ⟨T', h', _, X', e', fun n0 F q => Fr.snoc X' F q, own_setA A q S N H G (fits_nar_char _) W i hi hl, W, st⟩
theorem own_getA (V : own_A Z h a k ty n xs) {j : Int32} (hj : ¬ j < 0 ∧ j < n) : ∃ cl : Cell, Arr Z h a cl ty ∧ ¬ (j < 0 ∨ cl.slots.size ≤ j.toNatClampNeg) ∧ cl.slots[j.toNatClampNeg]? = some (.int (xs.getD j.toNatClampNeg 0)) := by
  obtain ⟨cl, A, q, S, N, H, G⟩ := V
  have hin := inb_of S hj
  refine ⟨cl, A, hin, ?_⟩
  rw [H _ (Nat.lt_of_not_le fun q => hin (Or.inr q))]
  simp only [List.getD_eq_getElem?_getD, List.getElem?_map]
  cases xs[j.toNatClampNeg]? <;> rfl
theorem own_ldI (X : Stand p l e R s m args below meth c T locs cells slots) (hx : p.tables.exec = Jvm.exec) (hZ : Z.Warmed39 s.vm) (eT : T.heap = h) (V : own_A Z h a k .int n xs) {j : Int32} (hj : ¬ j < 0 ∧ j < n)
    {g : JFrame} (hg : g.method = m) {rest : List Value} (hs : g.stack = .int j :: .ref a :: rest) (hd : decode c.code g.pc = .ok (.iaload, 1)) :
    ∀ target, Steps p.tables e below (T.setTop { g with pc := g.pc + 1, stack := .int (xs.getD j.toNatClampNeg 0) :: rest }) target → Steps p.tables e below (T.setTop g) target := by
  obtain ⟨cl, A, hin, hat⟩ := own_getA V hj
  exact X.iaload hx (by rw [eT]; exact A.1) (State.isArrayOf_alike hZ.alike A.2.1) A.2.2 hin hat hg hs hd
theorem own_ldB (X : Stand p l e R s m args below meth c T locs cells slots) (hx : p.tables.exec = Jvm.exec) (hZ : Z.Warmed39 s.vm) (eT : T.heap = h) (V : own_A Z h a k .byte n xs) {j : Int32} (hj : ¬ j < 0 ∧ j < n)
    {g : JFrame} (hg : g.method = m) {rest : List Value} (hs : g.stack = .int j :: .ref a :: rest) (hd : decode c.code g.pc = .ok (.baload, 1)) :
    ∀ target, Steps p.tables e below (T.setTop { g with pc := g.pc + 1, stack := .int (xs.getD j.toNatClampNeg 0) :: rest }) target → Steps p.tables e below (T.setTop g) target := by
  obtain ⟨cl, A, hin, hat⟩ := own_getA V hj
  exact X.baloadBytes hx (by rw [eT]; exact A.1) (State.isArrayOf_alike hZ.alike A.2.1) A.2.2 hin hat hg hs hd
theorem own_ldC (X : Stand p l e R s m args below meth c T locs cells slots) (hx : p.tables.exec = Jvm.exec) (hZ : Z.Warmed39 s.vm) (eT : T.heap = h) (V : own_A Z h a k .char n xs) {j : Int32} (hj : ¬ j < 0 ∧ j < n)
    {g : JFrame} (hg : g.method = m) {rest : List Value} (hs : g.stack = .int j :: .ref a :: rest) (hd : decode c.code g.pc = .ok (.caload, 1)) :
    ∀ target, Steps p.tables e below (T.setTop { g with pc := g.pc + 1, stack := .int (xs.getD j.toNatClampNeg 0) :: rest }) target → Steps p.tables e below (T.setTop g) target := by
  obtain ⟨cl, A, hin, hat⟩ := own_getA V hj
  exact X.caload hx (by rw [eT]; exact A.1) (State.isArrayOf_alike hZ.alike A.2.1) A.2.2 hin hat hg hs hd
end OwnArr
theorem own_rem32 (x y : Int32) : (x - x / y * y).toInt = x.toInt.tmod y.toInt := by
  have a := (x % y).toInt_lt; have b := (x % y).le_toInt
  rw [Int32.toInt_mod] at a b
  rw [Int32.toInt_sub, Int32.toInt_mul, Int32.toInt_div, Int.bmod_mul_bmod, Int.sub_bmod_bmod, Int.mul_comm, ← Int.tmod_def]
  exact Jvm.Kit.bmod32 b a
theorem own_rem32n {x y : Int32} (hx : 0 ≤ x.toInt) : (x - x / y * y).toInt = x.toInt % y.toInt := by rw [own_rem32, Int.tmod_eq_emod_of_nonneg hx]
theorem own_m31 (x : Int32) : 0 ≤ (x &&& (2147483647 : Int32)).toInt ∧ (x &&& (2147483647 : Int32)).toInt < 2147483648 := by
  rw [Jvm.Kit.i32_mask x 2147483647 (k := 31) (by decide) (by decide)]
  omega
def own_tb : List Int32 := [1, 10, 100, 1000, 10000, 100000, 1000000, 10000000]
def own_small (f c : Int32) : Prop := 0 ≤ f.toInt ∧ 0 ≤ c.toInt ∧ f.toInt + c.toInt ≤ 8
theorem own_sum8 {f c : Int32} (h : own_small f c) : (f + c).toInt = f.toInt + c.toInt := by
  obtain ⟨h1, h2, h3⟩ := h
  exact Jvm.Kit.i32_add (by omega) (by omega)
theorem own_first (p : Int32) : 0 ≤ ((p &&& (2147483647 : Int32)) - (p &&& (2147483647 : Int32)) / (9 : Int32) * (9 : Int32)).toInt ∧ ((p &&& (2147483647 : Int32)) - (p &&& (2147483647 : Int32)) / (9 : Int32) * (9 : Int32)).toInt ≤ 8 := by
  rw [own_rem32n (own_m31 p).1, show (9 : Int32).toInt = 9 from rfl]
  omega
theorem own_nine {f : Int32} (h : 0 ≤ f.toInt ∧ f.toInt ≤ 8) : ((9 : Int32) - f).toInt = 9 - f.toInt := by
  have l9 : (9 : Int32).toInt = 9 := rfl
  rw [Jvm.Kit.i32_sub (by omega) (by omega), l9]
theorem own_nz {f : Int32} (h : 0 ≤ f.toInt ∧ f.toInt ≤ 8) : (9 : Int32) - f ≠ 0 := fun q => by
  have e := own_nine h
  rw [q, show (0 : Int32).toInt = 0 from rfl] at e
  omega
theorem own_count {f : Int32} (h : 0 ≤ f.toInt ∧ f.toInt ≤ 8) (p : Int32) : own_small f ((p &&& (2147483647 : Int32)) - (p &&& (2147483647 : Int32)) / ((9 : Int32) - f) * ((9 : Int32) - f)) := by
  have e := own_nine h
  have hm := Int.emod_lt_of_pos (p &&& (2147483647 : Int32)).toInt (b := 9 - f.toInt) (by omega)
  have hn := Int.emod_nonneg (p &&& (2147483647 : Int32)).toInt (b := 9 - f.toInt) (by omega)
  unfold own_small
  rw [own_rem32n (own_m31 p).1, e]
  omega

theorem d2_0 : decode method_2_code 0 = .ok (.iload_n 0, 1) := by decide +kernel
theorem d2_1 : decode method_2_code 1 = .ok (.iload_n 1, 1) := by decide +kernel
theorem d2_2 : decode method_2_code 2 = .ok (.if_icmp .lt 14, 3) := by decide +kernel
theorem d2_5 : decode method_2_code 5 = .ok (.iload_n 0, 1) := by decide +kernel
theorem d2_6 : decode method_2_code 6 = .ok (.iload_n 1, 1) := by decide +kernel
theorem d2_7 : decode method_2_code 7 = .ok (.iload_n 2, 1) := by decide +kernel
theorem d2_8 : decode method_2_code 8 = .ok (.iadd, 1) := by decide +kernel
theorem d2_9 : decode method_2_code 9 = .ok (.if_icmp .ge 7, 3) := by decide +kernel
theorem d2_12 : decode method_2_code 12 = .ok (.iconst 1, 1) := by decide +kernel
theorem d2_13 : decode method_2_code 13 = .ok (.goto 4, 3) := by decide +kernel
theorem d2_16 : decode method_2_code 16 = .ok (.iconst 0, 1) := by decide +kernel
theorem d2_17 : decode method_2_code 17 = .ok (.ireturn, 1) := by decide +kernel
theorem pn_2 : plainName "com/example/kolektyv/kolektyv/records/BytesDigitsPinLaw" = true := by first | (simp [plainName, overriddenIn]; done) | decide +kernel
theorem ef_2 (m : MethodId) (p0 : Int32) (p1 : Int32) (p2 : Int32) : entryFrame m #[(.int p0), (.int p1), (.int p2)] 3 = mkF m 0 #[.val (.int p0), .val (.int p1), .val (.int p2)] [] := by first | (simp [entryFrame, mkF, argsToLocals, Value.category]; done) | rfl
def own_f2_16 : Int32 :=
  (0 : Int32)
def own_f2 (p0 : Int32) (p1 : Int32) (p2 : Int32) : Int32 :=
  if p0 < p1 then
    (own_f2_16)
  else
    if p0 < (p1 + p2) then
      (1 : Int32)
    else
      (own_f2_16)
abbrev own_room2 : Room := { frames := 0, cells := 0, slots := 0, locals := 0 }
set_option maxRecDepth 65536 in
set_option maxHeartbeats 40000000 in
theorem rm2 (l : Launch) (Z : State) (a0 : Array Value) (hw : ∀ d ∈ tables_1, d.before a0 Z = true) (ws : List Jvm.Cond) (p0 : Int32) (p1 : Int32) (p2 : Int32) (h0 : Heap) (n0 : Nat) (Z0 : n0 ≤ h0.size) :
    MetFree l (⟨"com/example/kolektyv/kolektyv/records/BytesDigitsPinLaw", "inRange", "(III)Z"⟩ : MethodName) (head1 (Jvm.Cond.code (⟨"com/example/kolektyv/kolektyv/records/BytesDigitsPinLaw", "inRange", "(III)Z"⟩ : MethodName) method_2_code 3 (some .boolean) :: ws) own_room2) (fun a U => a = #[(.int p0), (.int p1), (.int p2)] ∧ Z.Warmed39 U.vm ∧ U.heap = h0) (fun _ _ _ _ _ => True) (fun _ U o U' => ∃ v L, o = .returned v ∧ own_Qp (some (.int (own_f2 p0 p1 p2))) h0 v U'.heap L ∧ FrameEnd U o U' L own_room2.cells own_room2.slots) := by
  refine MetFree.of_bodySF (plainFor_of_name pn_2) hisR ?_
  intro p e s m args below meth c s₁ Bd hml0 hP hK
  obtain ⟨rfl, hZ, hh⟩ := hP
  have hx := Bd.exec
  have hby := Bd.bytes
  have hml : c.maxLocals = 3 := hml0
  have hown : s.vm.findClass "com/example/kolektyv/kolektyv/records/BytesDigitsPinLaw" = some m.cls := findClass_of_methodNamed Bd.named
  have hnm := (name_of_methodNamed Bd.named Bd.method).1
  have X0 : Stand p l e own_room2 s m #[(.int p0), (.int p1), (.int p2)] below meth c s₁ [] 0 0 := Stand.of_body Bd
  have e0 : s₁.heap = h0 := by rw [← hh, Bd.state]; rfl
  have N0 := Fr.nil n0
  refine own_enter (ef_2 m p0 p1 p2) ?_
  show own_Goes p.tables e below (s₁.setTop (mkF m 0 #[.val (.int p0), .val (.int p1), .val (.int p2)] [])) (own_P s (own_Qp (some (.int (own_f2 p0 p1 p2))) h0) own_room2.cells own_room2.slots)
  refine own_step (fun _ => XS.iloadN X0.here hx rfl (hb hby d2_0) rfl) ?_
  show own_Goes p.tables e below (s₁.setTop (mkF m 1 #[.val (.int p0), .val (.int p1), .val (.int p2)] [(.int p0)])) _
  refine own_step (fun _ => XS.iloadN X0.here hx rfl (hb hby d2_1) rfl) ?_
  show own_Goes p.tables e below (s₁.setTop (mkF m 2 #[.val (.int p0), .val (.int p1), .val (.int p2)] [(.int p1), (.int p0)])) _
  have J16 : ∀ (T_16 : State) (X_16 : Stand p l e own_room2 s m #[(.int p0), (.int p1), (.int p2)] below meth c T_16 [] 0 0) (e_16 : T_16.heap = h0), own_Goes p.tables e below (T_16.setTop (mkF m 16 #[.val (.int p0), .val (.int p1), .val (.int p2)] [])) (own_P s (own_Qp (some (.int (own_f2_16))) h0) own_room2.cells own_room2.slots) := by
    intro T_16 X_16 e_16
    refine own_step (fun _ => XS.iconst X_16.here hx rfl (hb hby d2_16)) ?_
    show own_Goes p.tables e below (T_16.setTop (mkF m 17 #[.val (.int p0), .val (.int p1), .val (.int p2)] [(.int (0 : Int32))])) _
    have hv : (own_f2_16) = (0 : Int32) := by exact rfl
    rw [hv]
    exact own_retN X_16 hx (t := .boolean) Bd.returns (by simp) (hb hby d2_17) (BodyLoose.notSynchronized Bd) (w := (0 : Int32)) rfl ⟨rfl, rfl, e_16⟩ (by decide) (by decide)
  by_cases hc2 : p0 < p1
  · refine own_step (fun _ => XS.icmpYes X0.here hx rfl (pc0 := 2) (pc' := 16) rfl (hb hby d2_2) rfl (Jvm.Free.XT.ii_lt_t hc2) (by decide) (by decide)) ?_
    show own_Goes p.tables e below (s₁.setTop (mkF m 16 #[.val (.int p0), .val (.int p1), .val (.int p2)] [])) _
    have hv : (own_f2 p0 p1 p2) = (own_f2_16) := by exact (if_pos hc2)
    rw [hv]
    exact J16 s₁ X0 e0
  · refine own_step (fun _ => XS.icmpNo X0.here hx rfl (hb hby d2_2) rfl (Jvm.Free.XT.ii_lt_f hc2)) ?_
    show own_Goes p.tables e below (s₁.setTop (mkF m 5 #[.val (.int p0), .val (.int p1), .val (.int p2)] [])) _
    refine own_step (fun _ => XS.iloadN X0.here hx rfl (hb hby d2_5) rfl) ?_
    show own_Goes p.tables e below (s₁.setTop (mkF m 6 #[.val (.int p0), .val (.int p1), .val (.int p2)] [(.int p0)])) _
    refine own_step (fun _ => XS.iloadN X0.here hx rfl (hb hby d2_6) rfl) ?_
    show own_Goes p.tables e below (s₁.setTop (mkF m 7 #[.val (.int p0), .val (.int p1), .val (.int p2)] [(.int p1), (.int p0)])) _
    refine own_step (fun _ => XS.iloadN X0.here hx rfl (hb hby d2_7) rfl) ?_
    show own_Goes p.tables e below (s₁.setTop (mkF m 8 #[.val (.int p0), .val (.int p1), .val (.int p2)] [(.int p2), (.int p1), (.int p0)])) _
    refine own_step (fun _ => XS.iadd X0.here hx rfl (hb hby d2_8) rfl) ?_
    show own_Goes p.tables e below (s₁.setTop (mkF m 9 #[.val (.int p0), .val (.int p1), .val (.int p2)] [(.int (p1 + p2)), (.int p0)])) _
    by_cases hc9 : p0 < (p1 + p2)
    · refine own_step (fun _ => XS.icmpNo X0.here hx rfl (hb hby d2_9) rfl (Jvm.Free.XT.ii_ge_f hc9)) ?_
      show own_Goes p.tables e below (s₁.setTop (mkF m 12 #[.val (.int p0), .val (.int p1), .val (.int p2)] [])) _
      refine own_step (fun _ => XS.iconst X0.here hx rfl (hb hby d2_12)) ?_
      show own_Goes p.tables e below (s₁.setTop (mkF m 13 #[.val (.int p0), .val (.int p1), .val (.int p2)] [(.int (1 : Int32))])) _
      refine own_step (fun _ => XS.goto X0.here hx rfl (pc0 := 13) (pc' := 17) rfl (hb hby d2_13) (by decide) (by decide)) ?_
      show own_Goes p.tables e below (s₁.setTop (mkF m 17 #[.val (.int p0), .val (.int p1), .val (.int p2)] [(.int (1 : Int32))])) _
      have hv : (own_f2 p0 p1 p2) = (1 : Int32) := by exact ((if_neg hc2)).trans (if_pos hc9)
      rw [hv]
      exact own_retN X0 hx (t := .boolean) Bd.returns (by simp) (hb hby d2_17) (BodyLoose.notSynchronized Bd) (w := (1 : Int32)) rfl ⟨rfl, rfl, e0⟩ (by decide) (by decide)
    · refine own_step (fun _ => XS.icmpYes X0.here hx rfl (pc0 := 9) (pc' := 16) rfl (hb hby d2_9) rfl (Jvm.Free.XT.ii_ge_t hc9) (by decide) (by decide)) ?_
      show own_Goes p.tables e below (s₁.setTop (mkF m 16 #[.val (.int p0), .val (.int p1), .val (.int p2)] [])) _
      have hv : (own_f2 p0 p1 p2) = (own_f2_16) := by exact ((if_neg hc2)).trans (if_neg hc9)
      rw [hv]
      exact J16 s₁ X0 e0
theorem own_f2_in {i f c : Int32} (h : own_small f c) : own_f2 i f c = if f.toInt ≤ i.toInt ∧ i.toInt < f.toInt + c.toInt then 1 else 0 := by
  have e := own_sum8 h
  unfold own_f2 own_f2_16
  simp only [Int32.lt_iff_toInt_lt, e]
  by_cases h1 : i.toInt < f.toInt
  · rw [if_pos h1, if_neg (by omega)]
  · by_cases h2 : i.toInt < f.toInt + c.toInt
    · rw [if_neg h1, if_pos h2, if_pos (by omega)]
    · rw [if_neg h1, if_neg h2, if_neg (by omega)]
theorem own_idx {i f c : Int32} (h : own_small f c) (q : ¬ own_f2 i f c = 0) : ¬ ((f + c) - (1 : Int32)) - i < 0 ∧ ((f + c) - (1 : Int32)) - i < 8 := by
  have e := own_sum8 h
  rw [own_f2_in h] at q
  have hi : f.toInt ≤ i.toInt ∧ i.toInt < f.toInt + c.toInt := by
    by_cases g : f.toInt ≤ i.toInt ∧ i.toInt < f.toInt + c.toInt
    · exact g
    · rw [if_neg g] at q; exact absurd rfl q
  obtain ⟨h1, h2, h3⟩ := h
  have l1 : (1 : Int32).toInt = 1 := rfl
  have e1 : ((f + c) - (1 : Int32)).toInt = f.toInt + c.toInt - 1 := by rw [Jvm.Kit.i32_sub (by omega) (by omega), e, l1]
  have e2 : (((f + c) - (1 : Int32)) - i).toInt = f.toInt + c.toInt - 1 - i.toInt := by rw [Jvm.Kit.i32_sub (by omega) (by omega), e1]
  rw [Int32.lt_iff_toInt_lt, Int32.lt_iff_toInt_lt, e2, show (8 : Int32).toInt = 8 from rfl, show (0 : Int32).toInt = 0 from rfl]
  omega
theorem own_invS {s i : Int32} {fuel : Nat} (h : i < s) (hH : 0 ≤ s.toInt - i.toInt ∧ s.toInt - i.toInt < ((fuel + 1 : Nat) : Int)) : 0 ≤ s.toInt - (i + (1 : Int32)).toInt ∧ s.toInt - (i + (1 : Int32)).toInt < (fuel : Int) := by
  rw [Int32.lt_iff_toInt_lt] at h
  have a := s.toInt_lt
  have b := i.le_toInt
  have l1 : (1 : Int32).toInt = 1 := rfl
  have e : (i + (1 : Int32)).toInt = i.toInt + 1 := by rw [Jvm.Kit.i32_add (by omega) (by omega), l1]
  rw [e]
  omega
theorem own_inv0 {f c : Int32} (h : own_small f c) : 0 ≤ (f + c).toInt - f.toInt ∧ (f + c).toInt - f.toInt < ((9 : Nat) : Int) := by
  have e := own_sum8 h
  obtain ⟨h1, h2, h3⟩ := h
  omega

theorem d3_0 : decode method_3_code 0 = .ok (.lload_n 0, 1) := by decide +kernel
theorem d3_1 : decode method_3_code 1 = .ok (.bipush 8, 2) := by decide +kernel
theorem d3_3 : decode method_3_code 3 = .ok (.iload_n 2, 1) := by decide +kernel
theorem d3_4 : decode method_3_code 4 = .ok (.imul, 1) := by decide +kernel
theorem d3_5 : decode method_3_code 5 = .ok (.lushr, 1) := by decide +kernel
theorem d3_6 : decode method_3_code 6 = .ok (.ldc2_w 7, 3) := by decide +kernel
theorem d3_9 : decode method_3_code 9 = .ok (.land, 1) := by decide +kernel
theorem d3_10 : decode method_3_code 10 = .ok (.ldc2_w 9, 3) := by decide +kernel
theorem d3_13 : decode method_3_code 13 = .ok (.lrem, 1) := by decide +kernel
theorem d3_14 : decode method_3_code 14 = .ok (.lreturn, 1) := by decide +kernel
theorem pn_3 : plainName "com/example/kolektyv/kolektyv/records/BytesDigitsPinLaw" = true := by first | (simp [plainName, overriddenIn]; done) | decide +kernel
theorem ef_3 (m : MethodId) (q0 : Int64) (p1 : Int32) : entryFrame m #[(.long q0), (.int p1)] 3 = mkF m 0 #[.val (.long q0), .second, .val (.int p1)] [] := by first | (simp [entryFrame, mkF, argsToLocals, Value.category]; done) | rfl
def own_f3 (q0 : Int64) (p1 : Int32) : Int64 :=
  ((((q0.toUInt64 >>> (((8 : Int32) * p1) &&& 0x3f).toInt64.toUInt64).toInt64) &&& (255 : Int64)) - (((q0.toUInt64 >>> (((8 : Int32) * p1) &&& 0x3f).toInt64.toUInt64).toInt64) &&& (255 : Int64)) / (10 : Int64) * (10 : Int64))
abbrev own_room3 : Room := { frames := 0, cells := 0, slots := 0, locals := 0 }
set_option maxRecDepth 65536 in
set_option maxHeartbeats 40000000 in
theorem rm3 (l : Launch) (Z : State) (a0 : Array Value) (hw : ∀ d ∈ tables_1, d.before a0 Z = true) (ws : List Jvm.Cond) (q0 : Int64) (p1 : Int32) (h0 : Heap) (n0 : Nat) (Z0 : n0 ≤ h0.size) :
    MetFree l (⟨"com/example/kolektyv/kolektyv/records/BytesDigitsPinLaw", "digitAt", "(JI)J"⟩ : MethodName) (head1 (Jvm.Cond.code (⟨"com/example/kolektyv/kolektyv/records/BytesDigitsPinLaw", "digitAt", "(JI)J"⟩ : MethodName) method_3_code 3 (some .long) :: ws) own_room3) (fun a U => a = #[(.long q0), (.int p1)] ∧ Z.Warmed39 U.vm ∧ U.heap = h0) (fun _ _ _ _ _ => True) (fun _ U o U' => ∃ v L, o = .returned v ∧ own_Qp (some (.long (own_f3 q0 p1))) h0 v U'.heap L ∧ FrameEnd U o U' L own_room3.cells own_room3.slots) := by
  refine MetFree.of_bodySF (plainFor_of_name pn_3) hisR ?_
  intro p e s m args below meth c s₁ Bd hml0 hP hK
  obtain ⟨rfl, hZ, hh⟩ := hP
  have hx := Bd.exec
  have hby := Bd.bytes
  have hml : c.maxLocals = 3 := hml0
  have hown : s.vm.findClass "com/example/kolektyv/kolektyv/records/BytesDigitsPinLaw" = some m.cls := findClass_of_methodNamed Bd.named
  have hnm := (name_of_methodNamed Bd.named Bd.method).1
  have X0 : Stand p l e own_room3 s m #[(.long q0), (.int p1)] below meth c s₁ [] 0 0 := Stand.of_body Bd
  have e0 : s₁.heap = h0 := by rw [← hh, Bd.state]; rfl
  have N0 := Fr.nil n0
  refine own_enter (ef_3 m q0 p1) ?_
  show own_Goes p.tables e below (s₁.setTop (mkF m 0 #[.val (.long q0), .second, .val (.int p1)] [])) (own_P s (own_Qp (some (.long (own_f3 q0 p1))) h0) own_room3.cells own_room3.slots)
  refine own_step (fun _ => XS.lloadN X0.here hx rfl (hb hby d3_0) rfl) ?_
  show own_Goes p.tables e below (s₁.setTop (mkF m 1 #[.val (.long q0), .second, .val (.int p1)] [(.long q0)])) _
  refine own_step (fun _ => XS.bipush X0.here hx rfl (hb hby d3_1)) ?_
  show own_Goes p.tables e below (s₁.setTop (mkF m 3 #[.val (.long q0), .second, .val (.int p1)] [(.int (8 : Int32)), (.long q0)])) _
  refine own_step (fun _ => XS.iloadN X0.here hx rfl (hb hby d3_3) rfl) ?_
  show own_Goes p.tables e below (s₁.setTop (mkF m 4 #[.val (.long q0), .second, .val (.int p1)] [(.int p1), (.int (8 : Int32)), (.long q0)])) _
  refine own_step (fun _ => XS.imul X0.here hx rfl (hb hby d3_4) rfl) ?_
  show own_Goes p.tables e below (s₁.setTop (mkF m 5 #[.val (.long q0), .second, .val (.int p1)] [(.int ((8 : Int32) * p1)), (.long q0)])) _
  refine own_step (fun _ => XS.lushr X0.here hx rfl (hb hby d3_5) rfl) ?_
  show own_Goes p.tables e below (s₁.setTop (mkF m 6 #[.val (.long q0), .second, .val (.int p1)] [(.long ((q0.toUInt64 >>> (((8 : Int32) * p1) &&& 0x3f).toInt64.toUInt64).toInt64))])) _
  refine own_step (X0.ldc2Long hx hown (mvT hZ (hw _ (List.mem_of_getElem? (i := 12) rfl))) (g := (mkF m 6 #[.val (.long q0), .second, .val (.int p1)] [(.long ((q0.toUInt64 >>> (((8 : Int32) * p1) &&& 0x3f).toInt64.toUInt64).toInt64))])) rfl (hb hby d3_6)) ?_
  show own_Goes p.tables e below (s₁.setTop (mkF m 9 #[.val (.long q0), .second, .val (.int p1)] [(.long (255 : Int64)), (.long ((q0.toUInt64 >>> (((8 : Int32) * p1) &&& 0x3f).toInt64.toUInt64).toInt64))])) _
  refine own_step (fun _ => XS.land X0.here hx rfl (hb hby d3_9) rfl) ?_
  show own_Goes p.tables e below (s₁.setTop (mkF m 10 #[.val (.long q0), .second, .val (.int p1)] [(.long (((q0.toUInt64 >>> (((8 : Int32) * p1) &&& 0x3f).toInt64.toUInt64).toInt64) &&& (255 : Int64)))])) _
  refine own_step (X0.ldc2Long hx hown (mvT hZ (hw _ (List.mem_of_getElem? (i := 13) rfl))) (g := (mkF m 10 #[.val (.long q0), .second, .val (.int p1)] [(.long (((q0.toUInt64 >>> (((8 : Int32) * p1) &&& 0x3f).toInt64.toUInt64).toInt64) &&& (255 : Int64)))])) rfl (hb hby d3_10)) ?_
  show own_Goes p.tables e below (s₁.setTop (mkF m 13 #[.val (.long q0), .second, .val (.int p1)] [(.long (10 : Int64)), (.long (((q0.toUInt64 >>> (((8 : Int32) * p1) &&& 0x3f).toInt64.toUInt64).toInt64) &&& (255 : Int64)))])) _
  refine own_step (fun _ => XS.lrem X0.here hx rfl (hb hby d3_13) rfl (by decide)) ?_
  show own_Goes p.tables e below (s₁.setTop (mkF m 14 #[.val (.long q0), .second, .val (.int p1)] [(.long ((((q0.toUInt64 >>> (((8 : Int32) * p1) &&& 0x3f).toInt64.toUInt64).toInt64) &&& (255 : Int64)) - (((q0.toUInt64 >>> (((8 : Int32) * p1) &&& 0x3f).toInt64.toUInt64).toInt64) &&& (255 : Int64)) / (10 : Int64) * (10 : Int64)))])) _
  have hv : (own_f3 q0 p1) = ((((q0.toUInt64 >>> (((8 : Int32) * p1) &&& 0x3f).toInt64.toUInt64).toInt64) &&& (255 : Int64)) - (((q0.toUInt64 >>> (((8 : Int32) * p1) &&& 0x3f).toInt64.toUInt64).toInt64) &&& (255 : Int64)) / (10 : Int64) * (10 : Int64)) := by exact rfl
  rw [hv]
  exact own_retJ X0 hx Bd.returns (hb hby d3_14) (BodyLoose.notSynchronized Bd) ⟨rfl, rfl, e0⟩ (by decide) (by decide)
theorem d1_0 : decode method_4_code 0 = .ok (.iload 4, 2) := by decide +kernel
theorem d1_2 : decode method_4_code 2 = .ok (.iload 5, 2) := by decide +kernel
theorem d1_4 : decode method_4_code 4 = .ok (.iload 6, 2) := by decide +kernel
theorem d1_6 : decode method_4_code 6 = .ok (.invokestatic 11, 3) := by decide +kernel
theorem d1_9 : decode method_4_code 9 = .ok (.ifCond .eq 18, 3) := by decide +kernel
theorem d1_12 : decode method_4_code 12 = .ok (.ldc2_w 17, 3) := by decide +kernel
theorem d1_15 : decode method_4_code 15 = .ok (.lload_n 0, 1) := by decide +kernel
theorem d1_16 : decode method_4_code 16 = .ok (.iload 4, 2) := by decide +kernel
theorem d1_18 : decode method_4_code 18 = .ok (.invokestatic 19, 3) := by decide +kernel
theorem d1_21 : decode method_4_code 21 = .ok (.ladd, 1) := by decide +kernel
theorem d1_22 : decode method_4_code 22 = .ok (.lstore 7, 2) := by decide +kernel
theorem d1_24 : decode method_4_code 24 = .ok (.goto 16, 3) := by decide +kernel
theorem d1_27 : decode method_4_code 27 = .ok (.lload_n 2, 1) := by decide +kernel
theorem d1_28 : decode method_4_code 28 = .ok (.bipush 8, 2) := by decide +kernel
theorem d1_30 : decode method_4_code 30 = .ok (.iload 4, 2) := by decide +kernel
theorem d1_32 : decode method_4_code 32 = .ok (.imul, 1) := by decide +kernel
theorem d1_33 : decode method_4_code 33 = .ok (.lushr, 1) := by decide +kernel
theorem d1_34 : decode method_4_code 34 = .ok (.ldc2_w 7, 3) := by decide +kernel
theorem d1_37 : decode method_4_code 37 = .ok (.land, 1) := by decide +kernel
theorem d1_38 : decode method_4_code 38 = .ok (.lstore 7, 2) := by decide +kernel
theorem d1_40 : decode method_4_code 40 = .ok (.lload 7, 2) := by decide +kernel
theorem d1_42 : decode method_4_code 42 = .ok (.bipush 8, 2) := by decide +kernel
theorem d1_44 : decode method_4_code 44 = .ok (.iload 4, 2) := by decide +kernel
theorem d1_46 : decode method_4_code 46 = .ok (.imul, 1) := by decide +kernel
theorem d1_47 : decode method_4_code 47 = .ok (.lshl, 1) := by decide +kernel
theorem d1_48 : decode method_4_code 48 = .ok (.lreturn, 1) := by decide +kernel
theorem pn_1 : plainName "com/example/kolektyv/kolektyv/records/BytesDigitsPinLaw" = true := by first | (simp [plainName, overriddenIn]; done) | decide +kernel
theorem pd_1_0 : parseMethodDescriptor "(III)Z" = some ⟨[.int, .int, .int], some .boolean⟩ := by decide +kernel
theorem pd_1_1 : parseMethodDescriptor "(JI)J" = some ⟨[.long, .int], some .long⟩ := by decide +kernel
theorem ef_1 (m : MethodId) (q0 : Int64) (q1 : Int64) (p2 : Int32) (p3 : Int32) (p4 : Int32) : entryFrame m #[(.long q0), (.long q1), (.int p2), (.int p3), (.int p4)] 9 = mkF m 0 #[.val (.long q0), .second, .val (.long q1), .second, .val (.int p2), .val (.int p3), .val (.int p4), .unset, .unset] [] := by first | (simp [entryFrame, mkF, argsToLocals, Value.category]; done) | rfl
def own_f1_40 (p2 : Int32) (w40_l7 : Int64) : Int64 :=
  (w40_l7 <<< (((8 : Int32) * p2) &&& 0x3f).toInt64)
def own_f1 (q0 : Int64) (q1 : Int64) (p2 : Int32) (p3 : Int32) (p4 : Int32) : Int64 :=
  if (own_f2 p2 p3 p4) = 0 then
    let z38 : Int64 := (((q1.toUInt64 >>> (((8 : Int32) * p2) &&& 0x3f).toInt64.toUInt64).toInt64) &&& (255 : Int64))
    (own_f1_40 p2 z38)
  else
    (own_f1_40 p2 ((48 : Int64) + (own_f3 q0 p2)))
abbrev own_room1 : Room := { frames := 1, cells := 0, slots := 0, locals := 16 }
set_option maxRecDepth 65536 in
set_option maxHeartbeats 40000000 in
theorem rm1 (l : Launch) (Z : State) (a0 : Array Value) (hw : ∀ d ∈ tables_1, d.before a0 Z = true) (ws : List Jvm.Cond) (q0 : Int64) (q1 : Int64) (p2 : Int32) (p3 : Int32) (p4 : Int32) (h0 : Heap) (n0 : Nat) (Z0 : n0 ≤ h0.size) :
    MetFree l (⟨"com/example/kolektyv/kolektyv/records/BytesDigitsPinLaw", "byteAt", "(JJIII)J"⟩ : MethodName) (head1 (Jvm.Cond.code (⟨"com/example/kolektyv/kolektyv/records/BytesDigitsPinLaw", "byteAt", "(JJIII)J"⟩ : MethodName) method_4_code 9 (some .long) :: ws) own_room1) (fun a U => a = #[(.long q0), (.long q1), (.int p2), (.int p3), (.int p4)] ∧ Z.Warmed39 U.vm ∧ U.heap = h0) (fun _ _ _ _ _ => True) (fun _ U o U' => ∃ v L, o = .returned v ∧ own_Qp (some (.long (own_f1 q0 q1 p2 p3 p4))) h0 v U'.heap L ∧ FrameEnd U o U' L own_room1.cells own_room1.slots) := by
  refine MetFree.of_bodySF (plainFor_of_name pn_1) hisR ?_
  intro p e s m args below meth c s₁ Bd hml0 hP hK
  obtain ⟨rfl, hZ, hh⟩ := hP
  have hx := Bd.exec
  have hby := Bd.bytes
  have hml : c.maxLocals = 9 := hml0
  have hown : s.vm.findClass "com/example/kolektyv/kolektyv/records/BytesDigitsPinLaw" = some m.cls := findClass_of_methodNamed Bd.named
  have hnm := (name_of_methodNamed Bd.named Bd.method).1
  have X0 : Stand p l e own_room1 s m #[(.long q0), (.long q1), (.int p2), (.int p3), (.int p4)] below meth c s₁ [] 0 0 := Stand.of_body Bd
  have e0 : s₁.heap = h0 := by rw [← hh, Bd.state]; rfl
  have N0 := Fr.nil n0
  refine own_enter (ef_1 m q0 q1 p2 p3 p4) ?_
  show own_Goes p.tables e below (s₁.setTop (mkF m 0 #[.val (.long q0), .second, .val (.long q1), .second, .val (.int p2), .val (.int p3), .val (.int p4), .unset, .unset] [])) (own_P s (own_Qp (some (.long (own_f1 q0 q1 p2 p3 p4))) h0) own_room1.cells own_room1.slots)
  refine own_step (fun _ => XS.iload X0.here hx rfl (hb hby d1_0) rfl) ?_
  show own_Goes p.tables e below (s₁.setTop (mkF m 2 #[.val (.long q0), .second, .val (.long q1), .second, .val (.int p2), .val (.int p3), .val (.int p4), .unset, .unset] [(.int p2)])) _
  refine own_step (fun _ => XS.iload X0.here hx rfl (hb hby d1_2) rfl) ?_
  show own_Goes p.tables e below (s₁.setTop (mkF m 4 #[.val (.long q0), .second, .val (.long q1), .second, .val (.int p2), .val (.int p3), .val (.int p4), .unset, .unset] [(.int p3), (.int p2)])) _
  refine own_step (fun _ => XS.iload X0.here hx rfl (hb hby d1_4) rfl) ?_
  show own_Goes p.tables e below (s₁.setTop (mkF m 6 #[.val (.long q0), .second, .val (.long q1), .second, .val (.int p2), .val (.int p3), .val (.int p4), .unset, .unset] [(.int p4), (.int p3), (.int p2)])) _
  obtain ⟨_, _, ⟨T1, L1, k1, n1⟩, -, X1, ⟨Lc1, hQ1, l1, y1, z1⟩, st1⟩ := Jvm.LawKit.callS X0 hx (y := (⟨"com/example/kolektyv/kolektyv/records/BytesDigitsPinLaw", "inRange", "(III)Z"⟩ : MethodName)) hown (mvT hZ (hw _ (List.mem_of_getElem? (i := 5) rfl))) (mvT hZ (hw _ (List.mem_of_getElem? (i := 6) rfl))) (mvT hZ (hw _ (List.mem_of_getElem? (i := 3) rfl))) (mvT hZ (hw _ (List.mem_of_getElem? (i := 7) rfl))) (by decide) (backOf (W := 0) (rm2 l Z a0 hw [] p2 p3 p4 h0 n0 Z0) hZ (hw _ (List.mem_of_getElem? (i := 7) rfl)) (hw _ (List.mem_of_getElem? (i := 3) rfl)) (by decide) (by decide)) (g := (mkF m 6 #[.val (.long q0), .second, .val (.long q1), .second, .val (.int p2), .val (.int p3), .val (.int p4), .unset, .unset] [(.int p4), (.int p3), (.int p2)])) rfl (by rw [hml]; rfl) (argsL := [(.int p2), (.int p3), (.int p4)]) (rest := []) (lenOf pd_1_0 rfl) rfl (by show 2 * 0 + _ ≤ _; exact Nat.le_of_eq rfl) (hb hby d1_6) (fun _ _ => ⟨rfl, e0, (by decide : 0 + 0 ≤ _), (by decide : 0 + 0 ≤ _)⟩)
  dsimp only [Pt.U, Pt.locs, Pt.cells, Pt.slots] at X1 l1 y1 z1 st1 hQ1
  subst l1 y1 z1
  obtain ⟨rfl, rfl, e1⟩ := hQ1
  have X1 : Stand p l e own_room1 s m #[(.long q0), (.long q1), (.int p2), (.int p3), (.int p4)] below meth c T1 [] 0 0 := own_flat X1
  refine own_step (st1) ?_
  show own_Goes p.tables e below (T1.setTop (mkF m 9 #[.val (.long q0), .second, .val (.long q1), .second, .val (.int p2), .val (.int p3), .val (.int p4), .unset, .unset] [(.int (own_f2 p2 p3 p4))])) _
  have J40 : ∀ (T_40 : State) (X_40 : Stand p l e own_room1 s m #[(.long q0), (.long q1), (.int p2), (.int p3), (.int p4)] below meth c T_40 [] 0 0) (e_40 : T_40.heap = h0) (w40_l7 : Int64), own_Goes p.tables e below (T_40.setTop (mkF m 40 #[.val (.long q0), .second, .val (.long q1), .second, .val (.int p2), .val (.int p3), .val (.int p4), .val (.long w40_l7), .second] [])) (own_P s (own_Qp (some (.long (own_f1_40 p2 w40_l7))) h0) own_room1.cells own_room1.slots) := by
    intro T_40 X_40 e_40 w40_l7
    refine own_step (fun _ => XS.lload X_40.here hx rfl (hb hby d1_40) rfl) ?_
    show own_Goes p.tables e below (T_40.setTop (mkF m 42 #[.val (.long q0), .second, .val (.long q1), .second, .val (.int p2), .val (.int p3), .val (.int p4), .val (.long w40_l7), .second] [(.long w40_l7)])) _
    refine own_step (fun _ => XS.bipush X_40.here hx rfl (hb hby d1_42)) ?_
    show own_Goes p.tables e below (T_40.setTop (mkF m 44 #[.val (.long q0), .second, .val (.long q1), .second, .val (.int p2), .val (.int p3), .val (.int p4), .val (.long w40_l7), .second] [(.int (8 : Int32)), (.long w40_l7)])) _
    refine own_step (fun _ => XS.iload X_40.here hx rfl (hb hby d1_44) rfl) ?_
    show own_Goes p.tables e below (T_40.setTop (mkF m 46 #[.val (.long q0), .second, .val (.long q1), .second, .val (.int p2), .val (.int p3), .val (.int p4), .val (.long w40_l7), .second] [(.int p2), (.int (8 : Int32)), (.long w40_l7)])) _
    refine own_step (fun _ => XS.imul X_40.here hx rfl (hb hby d1_46) rfl) ?_
    show own_Goes p.tables e below (T_40.setTop (mkF m 47 #[.val (.long q0), .second, .val (.long q1), .second, .val (.int p2), .val (.int p3), .val (.int p4), .val (.long w40_l7), .second] [(.int ((8 : Int32) * p2)), (.long w40_l7)])) _
    refine own_step (fun _ => XS.lshl X_40.here hx rfl (hb hby d1_47) rfl) ?_
    show own_Goes p.tables e below (T_40.setTop (mkF m 48 #[.val (.long q0), .second, .val (.long q1), .second, .val (.int p2), .val (.int p3), .val (.int p4), .val (.long w40_l7), .second] [(.long (w40_l7 <<< (((8 : Int32) * p2) &&& 0x3f).toInt64))])) _
    have hv : (own_f1_40 p2 w40_l7) = (w40_l7 <<< (((8 : Int32) * p2) &&& 0x3f).toInt64) := by exact rfl
    rw [hv]
    exact own_retJ X_40 hx Bd.returns (hb hby d1_48) (BodyLoose.notSynchronized Bd) ⟨rfl, rfl, e_40⟩ (by decide) (by decide)
  by_cases hc9 : (own_f2 p2 p3 p4) = 0
  · refine own_step (fun _ => XS.ifYes X1.here hx rfl (pc0 := 9) (pc' := 27) rfl (hb hby d1_9) rfl (Jvm.Free.XT.i0_eq_t hc9) (by decide) (by decide)) ?_
    show own_Goes p.tables e below (T1.setTop (mkF m 27 #[.val (.long q0), .second, .val (.long q1), .second, .val (.int p2), .val (.int p3), .val (.int p4), .unset, .unset] [])) _
    refine own_step (fun _ => XS.lloadN X1.here hx rfl (hb hby d1_27) rfl) ?_
    show own_Goes p.tables e below (T1.setTop (mkF m 28 #[.val (.long q0), .second, .val (.long q1), .second, .val (.int p2), .val (.int p3), .val (.int p4), .unset, .unset] [(.long q1)])) _
    refine own_step (fun _ => XS.bipush X1.here hx rfl (hb hby d1_28)) ?_
    show own_Goes p.tables e below (T1.setTop (mkF m 30 #[.val (.long q0), .second, .val (.long q1), .second, .val (.int p2), .val (.int p3), .val (.int p4), .unset, .unset] [(.int (8 : Int32)), (.long q1)])) _
    refine own_step (fun _ => XS.iload X1.here hx rfl (hb hby d1_30) rfl) ?_
    show own_Goes p.tables e below (T1.setTop (mkF m 32 #[.val (.long q0), .second, .val (.long q1), .second, .val (.int p2), .val (.int p3), .val (.int p4), .unset, .unset] [(.int p2), (.int (8 : Int32)), (.long q1)])) _
    refine own_step (fun _ => XS.imul X1.here hx rfl (hb hby d1_32) rfl) ?_
    show own_Goes p.tables e below (T1.setTop (mkF m 33 #[.val (.long q0), .second, .val (.long q1), .second, .val (.int p2), .val (.int p3), .val (.int p4), .unset, .unset] [(.int ((8 : Int32) * p2)), (.long q1)])) _
    refine own_step (fun _ => XS.lushr X1.here hx rfl (hb hby d1_33) rfl) ?_
    show own_Goes p.tables e below (T1.setTop (mkF m 34 #[.val (.long q0), .second, .val (.long q1), .second, .val (.int p2), .val (.int p3), .val (.int p4), .unset, .unset] [(.long ((q1.toUInt64 >>> (((8 : Int32) * p2) &&& 0x3f).toInt64.toUInt64).toInt64))])) _
    refine own_step (X1.ldc2Long hx hown (mvT hZ (hw _ (List.mem_of_getElem? (i := 12) rfl))) (g := (mkF m 34 #[.val (.long q0), .second, .val (.long q1), .second, .val (.int p2), .val (.int p3), .val (.int p4), .unset, .unset] [(.long ((q1.toUInt64 >>> (((8 : Int32) * p2) &&& 0x3f).toInt64.toUInt64).toInt64))])) rfl (hb hby d1_34)) ?_
    show own_Goes p.tables e below (T1.setTop (mkF m 37 #[.val (.long q0), .second, .val (.long q1), .second, .val (.int p2), .val (.int p3), .val (.int p4), .unset, .unset] [(.long (255 : Int64)), (.long ((q1.toUInt64 >>> (((8 : Int32) * p2) &&& 0x3f).toInt64.toUInt64).toInt64))])) _
    refine own_step (fun _ => XS.land X1.here hx rfl (hb hby d1_37) rfl) ?_
    show own_Goes p.tables e below (T1.setTop (mkF m 38 #[.val (.long q0), .second, .val (.long q1), .second, .val (.int p2), .val (.int p3), .val (.int p4), .unset, .unset] [(.long (((q1.toUInt64 >>> (((8 : Int32) * p2) &&& 0x3f).toInt64.toUInt64).toInt64) &&& (255 : Int64)))])) _
    obtain ⟨z38, hz38⟩ : ∃ z : Int64, z = (((q1.toUInt64 >>> (((8 : Int32) * p2) &&& 0x3f).toInt64.toUInt64).toInt64) &&& (255 : Int64)) := ⟨_, rfl⟩
    refine own_step (fun _ => XS.lstore X1.here hx rfl (hb hby d1_38) rfl (l' := #[.val (.long q0), .second, .val (.long q1), .second, .val (.int p2), .val (.int p3), .val (.int p4), .val (.long z38), .second]) (by subst hz38; rfl)) ?_
    show own_Goes p.tables e below (T1.setTop (mkF m 40 #[.val (.long q0), .second, .val (.long q1), .second, .val (.int p2), .val (.int p3), .val (.int p4), .val (.long z38), .second] [])) _
    have hv : (own_f1 q0 q1 p2 p3 p4) = (own_f1_40 p2 z38) := by subst hz38; exact (if_pos hc9)
    rw [hv]
    exact J40 T1 X1 e1 z38
  · refine own_step (fun _ => XS.ifNo X1.here hx rfl (hb hby d1_9) rfl (Jvm.Free.XT.i0_eq_f hc9)) ?_
    show own_Goes p.tables e below (T1.setTop (mkF m 12 #[.val (.long q0), .second, .val (.long q1), .second, .val (.int p2), .val (.int p3), .val (.int p4), .unset, .unset] [])) _
    refine own_step (X1.ldc2Long hx hown (mvT hZ (hw _ (List.mem_of_getElem? (i := 8) rfl))) (g := (mkF m 12 #[.val (.long q0), .second, .val (.long q1), .second, .val (.int p2), .val (.int p3), .val (.int p4), .unset, .unset] [])) rfl (hb hby d1_12)) ?_
    show own_Goes p.tables e below (T1.setTop (mkF m 15 #[.val (.long q0), .second, .val (.long q1), .second, .val (.int p2), .val (.int p3), .val (.int p4), .unset, .unset] [(.long (48 : Int64))])) _
    refine own_step (fun _ => XS.lloadN X1.here hx rfl (hb hby d1_15) rfl) ?_
    show own_Goes p.tables e below (T1.setTop (mkF m 16 #[.val (.long q0), .second, .val (.long q1), .second, .val (.int p2), .val (.int p3), .val (.int p4), .unset, .unset] [(.long q0), (.long (48 : Int64))])) _
    refine own_step (fun _ => XS.iload X1.here hx rfl (hb hby d1_16) rfl) ?_
    show own_Goes p.tables e below (T1.setTop (mkF m 18 #[.val (.long q0), .second, .val (.long q1), .second, .val (.int p2), .val (.int p3), .val (.int p4), .unset, .unset] [(.int p2), (.long q0), (.long (48 : Int64))])) _
    obtain ⟨_, _, ⟨T2, L2, k2, n2⟩, -, X2, ⟨Lc2, hQ2, l2, y2, z2⟩, st2⟩ := Jvm.LawKit.callS X1 hx (y := (⟨"com/example/kolektyv/kolektyv/records/BytesDigitsPinLaw", "digitAt", "(JI)J"⟩ : MethodName)) hown (mvT hZ (hw _ (List.mem_of_getElem? (i := 9) rfl))) (mvT hZ (hw _ (List.mem_of_getElem? (i := 10) rfl))) (mvT hZ (hw _ (List.mem_of_getElem? (i := 3) rfl))) (mvT hZ (hw _ (List.mem_of_getElem? (i := 11) rfl))) (by decide) (backOf (W := 2) (rm3 l Z a0 hw [] q0 p2 h0 n0 Z0) hZ (hw _ (List.mem_of_getElem? (i := 11) rfl)) (hw _ (List.mem_of_getElem? (i := 3) rfl)) (by decide) (by decide)) (g := (mkF m 18 #[.val (.long q0), .second, .val (.long q1), .second, .val (.int p2), .val (.int p3), .val (.int p4), .unset, .unset] [(.int p2), (.long q0), (.long (48 : Int64))])) rfl (by rw [hml]; rfl) (argsL := [(.long q0), (.int p2)]) (rest := [(.long (48 : Int64))]) (lenOf pd_1_1 rfl) rfl (by show 2 * 0 + _ ≤ _; exact Nat.le_of_eq rfl) (hb hby d1_18) (fun _ _ => ⟨rfl, e1, (by decide : 0 + 0 ≤ _), (by decide : 0 + 0 ≤ _)⟩)
    dsimp only [Pt.U, Pt.locs, Pt.cells, Pt.slots] at X2 l2 y2 z2 st2 hQ2
    subst l2 y2 z2
    obtain ⟨rfl, rfl, e2⟩ := hQ2
    have X2 : Stand p l e own_room1 s m #[(.long q0), (.long q1), (.int p2), (.int p3), (.int p4)] below meth c T2 [] 0 0 := own_flat X2
    refine own_step (st2) ?_
    show own_Goes p.tables e below (T2.setTop (mkF m 21 #[.val (.long q0), .second, .val (.long q1), .second, .val (.int p2), .val (.int p3), .val (.int p4), .unset, .unset] [(.long (own_f3 q0 p2)), (.long (48 : Int64))])) _
    refine own_step (fun _ => XS.ladd X2.here hx rfl (hb hby d1_21) rfl) ?_
    show own_Goes p.tables e below (T2.setTop (mkF m 22 #[.val (.long q0), .second, .val (.long q1), .second, .val (.int p2), .val (.int p3), .val (.int p4), .unset, .unset] [(.long ((48 : Int64) + (own_f3 q0 p2)))])) _
    refine own_step (fun _ => XS.lstore X2.here hx rfl (hb hby d1_22) rfl (l' := #[.val (.long q0), .second, .val (.long q1), .second, .val (.int p2), .val (.int p3), .val (.int p4), .val (.long ((48 : Int64) + (own_f3 q0 p2))), .second]) rfl) ?_
    show own_Goes p.tables e below (T2.setTop (mkF m 24 #[.val (.long q0), .second, .val (.long q1), .second, .val (.int p2), .val (.int p3), .val (.int p4), .val (.long ((48 : Int64) + (own_f3 q0 p2))), .second] [])) _
    refine own_step (fun _ => XS.goto X2.here hx rfl (pc0 := 24) (pc' := 40) rfl (hb hby d1_24) (by decide) (by decide)) ?_
    show own_Goes p.tables e below (T2.setTop (mkF m 40 #[.val (.long q0), .second, .val (.long q1), .second, .val (.int p2), .val (.int p3), .val (.int p4), .val (.long ((48 : Int64) + (own_f3 q0 p2))), .second] [])) _
    have hv : (own_f1 q0 q1 p2 p3 p4) = (own_f1_40 p2 ((48 : Int64) + (own_f3 q0 p2))) := by exact (if_neg hc9)
    rw [hv]
    exact J40 T2 X2 e2 ((48 : Int64) + (own_f3 q0 p2))
theorem d4_0 : decode method_5_code 0 = .ok (.iload_n 2, 1) := by decide +kernel
theorem d4_1 : decode method_5_code 1 = .ok (.iload_n 3, 1) := by decide +kernel
theorem d4_2 : decode method_5_code 2 = .ok (.iload 4, 2) := by decide +kernel
theorem d4_4 : decode method_5_code 4 = .ok (.invokestatic 11, 3) := by decide +kernel
theorem d4_7 : decode method_5_code 7 = .ok (.ifCond .ne 5, 3) := by decide +kernel
theorem d4_10 : decode method_5_code 10 = .ok (.iconst 0, 1) := by decide +kernel
theorem d4_11 : decode method_5_code 11 = .ok (.ireturn, 1) := by decide +kernel
theorem d4_12 : decode method_5_code 12 = .ok (.bipush 8, 2) := by decide +kernel
theorem d4_14 : decode method_5_code 14 = .ok (.newarray .int, 2) := by decide +kernel
theorem d4_16 : decode method_5_code 16 = .ok (.dup, 1) := by decide +kernel
theorem d4_17 : decode method_5_code 17 = .ok (.iconst 0, 1) := by decide +kernel
theorem d4_18 : decode method_5_code 18 = .ok (.iconst 1, 1) := by decide +kernel
theorem d4_19 : decode method_5_code 19 = .ok (.iastore, 1) := by decide +kernel
theorem d4_20 : decode method_5_code 20 = .ok (.dup, 1) := by decide +kernel
theorem d4_21 : decode method_5_code 21 = .ok (.iconst 1, 1) := by decide +kernel
theorem d4_22 : decode method_5_code 22 = .ok (.bipush 10, 2) := by decide +kernel
theorem d4_24 : decode method_5_code 24 = .ok (.iastore, 1) := by decide +kernel
theorem d4_25 : decode method_5_code 25 = .ok (.dup, 1) := by decide +kernel
theorem d4_26 : decode method_5_code 26 = .ok (.iconst 2, 1) := by decide +kernel
theorem d4_27 : decode method_5_code 27 = .ok (.bipush 100, 2) := by decide +kernel
theorem d4_29 : decode method_5_code 29 = .ok (.iastore, 1) := by decide +kernel
theorem d4_30 : decode method_5_code 30 = .ok (.dup, 1) := by decide +kernel
theorem d4_31 : decode method_5_code 31 = .ok (.iconst 3, 1) := by decide +kernel
theorem d4_32 : decode method_5_code 32 = .ok (.sipush 1000, 3) := by decide +kernel
theorem d4_35 : decode method_5_code 35 = .ok (.iastore, 1) := by decide +kernel
theorem d4_36 : decode method_5_code 36 = .ok (.dup, 1) := by decide +kernel
theorem d4_37 : decode method_5_code 37 = .ok (.iconst 4, 1) := by decide +kernel
theorem d4_38 : decode method_5_code 38 = .ok (.sipush 10000, 3) := by decide +kernel
theorem d4_41 : decode method_5_code 41 = .ok (.iastore, 1) := by decide +kernel
theorem d4_42 : decode method_5_code 42 = .ok (.dup, 1) := by decide +kernel
theorem d4_43 : decode method_5_code 43 = .ok (.iconst 5, 1) := by decide +kernel
theorem d4_44 : decode method_5_code 44 = .ok (.ldc 23, 2) := by decide +kernel
theorem d4_46 : decode method_5_code 46 = .ok (.iastore, 1) := by decide +kernel
theorem d4_47 : decode method_5_code 47 = .ok (.dup, 1) := by decide +kernel
theorem d4_48 : decode method_5_code 48 = .ok (.bipush 6, 2) := by decide +kernel
theorem d4_50 : decode method_5_code 50 = .ok (.ldc 24, 2) := by decide +kernel
theorem d4_52 : decode method_5_code 52 = .ok (.iastore, 1) := by decide +kernel
theorem d4_53 : decode method_5_code 53 = .ok (.dup, 1) := by decide +kernel
theorem d4_54 : decode method_5_code 54 = .ok (.bipush 7, 2) := by decide +kernel
theorem d4_56 : decode method_5_code 56 = .ok (.ldc 25, 2) := by decide +kernel
theorem d4_58 : decode method_5_code 58 = .ok (.iastore, 1) := by decide +kernel
theorem d4_59 : decode method_5_code 59 = .ok (.astore 5, 2) := by decide +kernel
theorem d4_61 : decode method_5_code 61 = .ok (.lload_n 0, 1) := by decide +kernel
theorem d4_62 : decode method_5_code 62 = .ok (.iload_n 2, 1) := by decide +kernel
theorem d4_63 : decode method_5_code 63 = .ok (.invokestatic 19, 3) := by decide +kernel
theorem d4_66 : decode method_5_code 66 = .ok (.l2i, 1) := by decide +kernel
theorem d4_67 : decode method_5_code 67 = .ok (.aload 5, 2) := by decide +kernel
theorem d4_69 : decode method_5_code 69 = .ok (.iload_n 3, 1) := by decide +kernel
theorem d4_70 : decode method_5_code 70 = .ok (.iload 4, 2) := by decide +kernel
theorem d4_72 : decode method_5_code 72 = .ok (.iadd, 1) := by decide +kernel
theorem d4_73 : decode method_5_code 73 = .ok (.iconst 1, 1) := by decide +kernel
theorem d4_74 : decode method_5_code 74 = .ok (.isub, 1) := by decide +kernel
theorem d4_75 : decode method_5_code 75 = .ok (.iload_n 2, 1) := by decide +kernel
theorem d4_76 : decode method_5_code 76 = .ok (.isub, 1) := by decide +kernel
theorem d4_77 : decode method_5_code 77 = .ok (.iaload, 1) := by decide +kernel
theorem d4_78 : decode method_5_code 78 = .ok (.imul, 1) := by decide +kernel
theorem d4_79 : decode method_5_code 79 = .ok (.ireturn, 1) := by decide +kernel
theorem pn_4 : plainName "com/example/kolektyv/kolektyv/records/BytesDigitsPinLaw" = true := by first | (simp [plainName, overriddenIn]; done) | decide +kernel
theorem pd_4_0 : parseMethodDescriptor "(III)Z" = some ⟨[.int, .int, .int], some .boolean⟩ := by decide +kernel
theorem pd_4_1 : parseMethodDescriptor "(JI)J" = some ⟨[.long, .int], some .long⟩ := by decide +kernel
theorem ef_4 (m : MethodId) (q0 : Int64) (p1 : Int32) (p2 : Int32) (p3 : Int32) : entryFrame m #[(.long q0), (.int p1), (.int p2), (.int p3)] 6 = mkF m 0 #[.val (.long q0), .second, .val (.int p1), .val (.int p2), .val (.int p3), .unset] [] := by first | (simp [entryFrame, mkF, argsToLocals, Value.category]; done) | rfl
def own_f4 (q0 : Int64) (p1 : Int32) (p2 : Int32) (p3 : Int32) : Int32 :=
  if (own_f2 p1 p2 p3) = 0 then
    (0 : Int32)
  else
    (((own_f3 q0 p1).toInt32) * (own_tb.getD (((p2 + p3) - (1 : Int32)) - p1).toNatClampNeg 0))
abbrev own_room4 : Room := { frames := 1, cells := 1, slots := 8, locals := 14 }
set_option maxRecDepth 65536 in
set_option maxHeartbeats 40000000 in
theorem rm4 (l : Launch) (Z : State) (a0 : Array Value) (hw : ∀ d ∈ tables_1, d.before a0 Z = true) (ws : List Jvm.Cond) (q0 : Int64) (p1 : Int32) (p2 : Int32) (p3 : Int32) (h0 : Heap) (n0 : Nat) (Z0 : n0 ≤ h0.size) (hp : own_small p2 p3) :
    MetFree l (⟨"com/example/kolektyv/kolektyv/records/BytesDigitsPinLaw", "term", "(JIII)I"⟩ : MethodName) (head1 (Jvm.Cond.code (⟨"com/example/kolektyv/kolektyv/records/BytesDigitsPinLaw", "term", "(JIII)I"⟩ : MethodName) method_5_code 6 (some .int) :: ws) own_room4) (fun a U => a = #[(.long q0), (.int p1), (.int p2), (.int p3)] ∧ Z.Warmed39 U.vm ∧ U.heap = h0) (fun _ _ _ _ _ => True) (fun _ U o U' => ∃ v L, o = .returned v ∧ own_Qa (some (.int (own_f4 q0 p1 p2 p3))) h0 n0 v U'.heap L ∧ FrameEnd U o U' L own_room4.cells own_room4.slots) := by
  refine MetFree.of_bodySF (plainFor_of_name pn_4) hisR ?_
  intro p e s m args below meth c s₁ Bd hml0 hP hK
  obtain ⟨rfl, hZ, hh⟩ := hP
  have hx := Bd.exec
  have hby := Bd.bytes
  have hml : c.maxLocals = 6 := hml0
  have hown : s.vm.findClass "com/example/kolektyv/kolektyv/records/BytesDigitsPinLaw" = some m.cls := findClass_of_methodNamed Bd.named
  have hnm := (name_of_methodNamed Bd.named Bd.method).1
  have X0 : Stand p l e own_room4 s m #[(.long q0), (.int p1), (.int p2), (.int p3)] below meth c s₁ [] 0 0 := Stand.of_body Bd
  have e0 : s₁.heap = h0 := by rw [← hh, Bd.state]; rfl
  have N0 := Fr.nil n0
  refine own_enter (ef_4 m q0 p1 p2 p3) ?_
  show own_Goes p.tables e below (s₁.setTop (mkF m 0 #[.val (.long q0), .second, .val (.int p1), .val (.int p2), .val (.int p3), .unset] [])) (own_P s (own_Qa (some (.int (own_f4 q0 p1 p2 p3))) h0 n0) own_room4.cells own_room4.slots)
  refine own_step (fun _ => XS.iloadN X0.here hx rfl (hb hby d4_0) rfl) ?_
  show own_Goes p.tables e below (s₁.setTop (mkF m 1 #[.val (.long q0), .second, .val (.int p1), .val (.int p2), .val (.int p3), .unset] [(.int p1)])) _
  refine own_step (fun _ => XS.iloadN X0.here hx rfl (hb hby d4_1) rfl) ?_
  show own_Goes p.tables e below (s₁.setTop (mkF m 2 #[.val (.long q0), .second, .val (.int p1), .val (.int p2), .val (.int p3), .unset] [(.int p2), (.int p1)])) _
  refine own_step (fun _ => XS.iload X0.here hx rfl (hb hby d4_2) rfl) ?_
  show own_Goes p.tables e below (s₁.setTop (mkF m 4 #[.val (.long q0), .second, .val (.int p1), .val (.int p2), .val (.int p3), .unset] [(.int p3), (.int p2), (.int p1)])) _
  obtain ⟨_, _, ⟨T1, L1, k1, n1⟩, -, X1, ⟨Lc1, hQ1, l1, y1, z1⟩, st1⟩ := Jvm.LawKit.callS X0 hx (y := (⟨"com/example/kolektyv/kolektyv/records/BytesDigitsPinLaw", "inRange", "(III)Z"⟩ : MethodName)) hown (mvT hZ (hw _ (List.mem_of_getElem? (i := 5) rfl))) (mvT hZ (hw _ (List.mem_of_getElem? (i := 6) rfl))) (mvT hZ (hw _ (List.mem_of_getElem? (i := 3) rfl))) (mvT hZ (hw _ (List.mem_of_getElem? (i := 7) rfl))) (by decide) (backOf (W := 0) (rm2 l Z a0 hw [] p1 p2 p3 h0 n0 Z0) hZ (hw _ (List.mem_of_getElem? (i := 7) rfl)) (hw _ (List.mem_of_getElem? (i := 3) rfl)) (by decide) (by decide)) (g := (mkF m 4 #[.val (.long q0), .second, .val (.int p1), .val (.int p2), .val (.int p3), .unset] [(.int p3), (.int p2), (.int p1)])) rfl (by rw [hml]; rfl) (argsL := [(.int p1), (.int p2), (.int p3)]) (rest := []) (lenOf pd_4_0 rfl) rfl (by show 2 * 0 + _ ≤ _; exact Nat.le_of_eq rfl) (hb hby d4_4) (fun _ _ => ⟨rfl, e0, (by decide : 0 + 0 ≤ _), (by decide : 0 + 0 ≤ _)⟩)
  dsimp only [Pt.U, Pt.locs, Pt.cells, Pt.slots] at X1 l1 y1 z1 st1 hQ1
  subst l1 y1 z1
  obtain ⟨rfl, rfl, e1⟩ := hQ1
  have X1 : Stand p l e own_room4 s m #[(.long q0), (.int p1), (.int p2), (.int p3)] below meth c T1 [] 0 0 := own_flat X1
  refine own_step (st1) ?_
  show own_Goes p.tables e below (T1.setTop (mkF m 7 #[.val (.long q0), .second, .val (.int p1), .val (.int p2), .val (.int p3), .unset] [(.int (own_f2 p1 p2 p3))])) _
  by_cases hc7 : (own_f2 p1 p2 p3) = 0
  · refine own_step (fun _ => XS.ifNo X1.here hx rfl (hb hby d4_7) rfl (Jvm.Free.XT.i0_ne_f hc7)) ?_
    show own_Goes p.tables e below (T1.setTop (mkF m 10 #[.val (.long q0), .second, .val (.int p1), .val (.int p2), .val (.int p3), .unset] [])) _
    refine own_step (fun _ => XS.iconst X1.here hx rfl (hb hby d4_10)) ?_
    show own_Goes p.tables e below (T1.setTop (mkF m 11 #[.val (.long q0), .second, .val (.int p1), .val (.int p2), .val (.int p3), .unset] [(.int (0 : Int32))])) _
    have hv : (own_f4 q0 p1 p2 p3) = (0 : Int32) := by exact (if_pos hc7)
    rw [hv]
    exact own_retI X1 hx Bd.returns (hb hby d4_11) (BodyLoose.notSynchronized Bd) ⟨rfl, N0, by rw [e1]; exact (Keep.refl h0 [])⟩ (by decide) (by decide)
  · refine own_step (fun _ => XS.ifYes X1.here hx rfl (pc0 := 7) (pc' := 12) rfl (hb hby d4_7) rfl (Jvm.Free.XT.i0_ne_t hc7) (by decide) (by decide)) ?_
    show own_Goes p.tables e below (T1.setTop (mkF m 12 #[.val (.long q0), .second, .val (.int p1), .val (.int p2), .val (.int p3), .unset] [])) _
    refine own_step (fun _ => XS.bipush X1.here hx rfl (hb hby d4_12)) ?_
    show own_Goes p.tables e below (T1.setTop (mkF m 14 #[.val (.long q0), .second, .val (.int p1), .val (.int p2), .val (.int p3), .unset] [(.int (8 : Int32))])) _
    obtain ⟨T2, h2, b14, k2, X2, e2, E2, g2, V2, st2⟩ := own_newA X1 hx hZ (hw _ (List.mem_of_getElem? (i := 17) rfl)) e1 (g := (mkF m 14 #[.val (.long q0), .second, .val (.int p1), .val (.int p2), .val (.int p3), .unset] [(.int (8 : Int32))])) rfl (hb hby d4_14) rfl 8 (by decide) (by decide) (by decide) (by decide) (by decide) rfl
    have g_b14 : n0 ≤ b14 := Nat.le_trans Z0 (Nat.le_of_eq g2.symm)
    have sz_b14 : h0.size ≤ b14 := Nat.le_trans (Keep.refl h0 []).1 (Nat.le_of_eq g2.symm)
    have K2 : Keep h0 h2 [] := (Keep.refl h0 []).ext E2
    have Z2 : n0 ≤ h2.size := Nat.le_trans Z0 E2.1
    have V2 : own_A Z h2 b14 k2 .int (8 : Int32) [(0 : Int32), (0 : Int32), (0 : Int32), (0 : Int32), (0 : Int32), (0 : Int32), (0 : Int32), (0 : Int32)] := V2
    refine own_step (st2) ?_
    show own_Goes p.tables e below (T2.setTop (mkF m 16 #[.val (.long q0), .second, .val (.int p1), .val (.int p2), .val (.int p3), .unset] [(.ref b14)])) _
    refine own_step (fun _ => XS.dup X2.here hx rfl (hb hby d4_16) rfl rfl) ?_
    show own_Goes p.tables e below (T2.setTop (mkF m 17 #[.val (.long q0), .second, .val (.int p1), .val (.int p2), .val (.int p3), .unset] [(.ref b14), (.ref b14)])) _
    refine own_step (fun _ => XS.iconst X2.here hx rfl (hb hby d4_17)) ?_
    show own_Goes p.tables e below (T2.setTop (mkF m 18 #[.val (.long q0), .second, .val (.int p1), .val (.int p2), .val (.int p3), .unset] [(.int (0 : Int32)), (.ref b14), (.ref b14)])) _
    refine own_step (fun _ => XS.iconst X2.here hx rfl (hb hby d4_18)) ?_
    show own_Goes p.tables e below (T2.setTop (mkF m 19 #[.val (.long q0), .second, .val (.int p1), .val (.int p2), .val (.int p3), .unset] [(.int (1 : Int32)), (.int (0 : Int32)), (.ref b14), (.ref b14)])) _
    obtain ⟨T3, h3, L3, X3, e3, N3, V3, W3, st3⟩ := own_stI X2 hx hZ e2 V2 (j := (0 : Int32)) 0 ⟨by decide, by decide⟩ (by decide) (show 0 < 8 by decide) (g := (mkF m 19 #[.val (.long q0), .second, .val (.int p1), .val (.int p2), .val (.int p3), .unset] [(.int (1 : Int32)), (.int (0 : Int32)), (.ref b14), (.ref b14)])) rfl rfl (hb hby d4_19)
    have N3 := N3 n0 N0 g_b14
    have K3 : Keep h0 h3 [] := K2.wr W3 (Or.inr sz_b14)
    have Z3 : n0 ≤ h3.size := Nat.le_trans Z0 K3.1
    have V3 : own_A Z h3 b14 k2 .int (8 : Int32) [(1 : Int32), (0 : Int32), (0 : Int32), (0 : Int32), (0 : Int32), (0 : Int32), (0 : Int32), (0 : Int32)] := V3
    refine own_step (st3) ?_
    show own_Goes p.tables e below (T3.setTop (mkF m 20 #[.val (.long q0), .second, .val (.int p1), .val (.int p2), .val (.int p3), .unset] [(.ref b14)])) _
    refine own_step (fun _ => XS.dup X3.here hx rfl (hb hby d4_20) rfl rfl) ?_
    show own_Goes p.tables e below (T3.setTop (mkF m 21 #[.val (.long q0), .second, .val (.int p1), .val (.int p2), .val (.int p3), .unset] [(.ref b14), (.ref b14)])) _
    refine own_step (fun _ => XS.iconst X3.here hx rfl (hb hby d4_21)) ?_
    show own_Goes p.tables e below (T3.setTop (mkF m 22 #[.val (.long q0), .second, .val (.int p1), .val (.int p2), .val (.int p3), .unset] [(.int (1 : Int32)), (.ref b14), (.ref b14)])) _
    refine own_step (fun _ => XS.bipush X3.here hx rfl (hb hby d4_22)) ?_
    show own_Goes p.tables e below (T3.setTop (mkF m 24 #[.val (.long q0), .second, .val (.int p1), .val (.int p2), .val (.int p3), .unset] [(.int (10 : Int32)), (.int (1 : Int32)), (.ref b14), (.ref b14)])) _
    obtain ⟨T4, h4, L4, X4, e4, N4, V4, W4, st4⟩ := own_stI X3 hx hZ e3 V3 (j := (1 : Int32)) 1 ⟨by decide, by decide⟩ (by decide) (show 1 < 8 by decide) (g := (mkF m 24 #[.val (.long q0), .second, .val (.int p1), .val (.int p2), .val (.int p3), .unset] [(.int (10 : Int32)), (.int (1 : Int32)), (.ref b14), (.ref b14)])) rfl rfl (hb hby d4_24)
    have N4 := N4 n0 N3 g_b14
    have K4 : Keep h0 h4 [] := K3.wr W4 (Or.inr sz_b14)
    have Z4 : n0 ≤ h4.size := Nat.le_trans Z0 K4.1
    have V4 : own_A Z h4 b14 k2 .int (8 : Int32) [(1 : Int32), (10 : Int32), (0 : Int32), (0 : Int32), (0 : Int32), (0 : Int32), (0 : Int32), (0 : Int32)] := V4
    refine own_step (st4) ?_
    show own_Goes p.tables e below (T4.setTop (mkF m 25 #[.val (.long q0), .second, .val (.int p1), .val (.int p2), .val (.int p3), .unset] [(.ref b14)])) _
    refine own_step (fun _ => XS.dup X4.here hx rfl (hb hby d4_25) rfl rfl) ?_
    show own_Goes p.tables e below (T4.setTop (mkF m 26 #[.val (.long q0), .second, .val (.int p1), .val (.int p2), .val (.int p3), .unset] [(.ref b14), (.ref b14)])) _
    refine own_step (fun _ => XS.iconst X4.here hx rfl (hb hby d4_26)) ?_
    show own_Goes p.tables e below (T4.setTop (mkF m 27 #[.val (.long q0), .second, .val (.int p1), .val (.int p2), .val (.int p3), .unset] [(.int (2 : Int32)), (.ref b14), (.ref b14)])) _
    refine own_step (fun _ => XS.bipush X4.here hx rfl (hb hby d4_27)) ?_
    show own_Goes p.tables e below (T4.setTop (mkF m 29 #[.val (.long q0), .second, .val (.int p1), .val (.int p2), .val (.int p3), .unset] [(.int (100 : Int32)), (.int (2 : Int32)), (.ref b14), (.ref b14)])) _
    obtain ⟨T5, h5, L5, X5, e5, N5, V5, W5, st5⟩ := own_stI X4 hx hZ e4 V4 (j := (2 : Int32)) 2 ⟨by decide, by decide⟩ (by decide) (show 2 < 8 by decide) (g := (mkF m 29 #[.val (.long q0), .second, .val (.int p1), .val (.int p2), .val (.int p3), .unset] [(.int (100 : Int32)), (.int (2 : Int32)), (.ref b14), (.ref b14)])) rfl rfl (hb hby d4_29)
    have N5 := N5 n0 N4 g_b14
    have K5 : Keep h0 h5 [] := K4.wr W5 (Or.inr sz_b14)
    have Z5 : n0 ≤ h5.size := Nat.le_trans Z0 K5.1
    have V5 : own_A Z h5 b14 k2 .int (8 : Int32) [(1 : Int32), (10 : Int32), (100 : Int32), (0 : Int32), (0 : Int32), (0 : Int32), (0 : Int32), (0 : Int32)] := V5
    refine own_step (st5) ?_
    show own_Goes p.tables e below (T5.setTop (mkF m 30 #[.val (.long q0), .second, .val (.int p1), .val (.int p2), .val (.int p3), .unset] [(.ref b14)])) _
    refine own_step (fun _ => XS.dup X5.here hx rfl (hb hby d4_30) rfl rfl) ?_
    show own_Goes p.tables e below (T5.setTop (mkF m 31 #[.val (.long q0), .second, .val (.int p1), .val (.int p2), .val (.int p3), .unset] [(.ref b14), (.ref b14)])) _
    refine own_step (fun _ => XS.iconst X5.here hx rfl (hb hby d4_31)) ?_
    show own_Goes p.tables e below (T5.setTop (mkF m 32 #[.val (.long q0), .second, .val (.int p1), .val (.int p2), .val (.int p3), .unset] [(.int (3 : Int32)), (.ref b14), (.ref b14)])) _
    refine own_step (fun _ => XS.sipush X5.here hx rfl (hb hby d4_32)) ?_
    show own_Goes p.tables e below (T5.setTop (mkF m 35 #[.val (.long q0), .second, .val (.int p1), .val (.int p2), .val (.int p3), .unset] [(.int (1000 : Int32)), (.int (3 : Int32)), (.ref b14), (.ref b14)])) _
    obtain ⟨T6, h6, L6, X6, e6, N6, V6, W6, st6⟩ := own_stI X5 hx hZ e5 V5 (j := (3 : Int32)) 3 ⟨by decide, by decide⟩ (by decide) (show 3 < 8 by decide) (g := (mkF m 35 #[.val (.long q0), .second, .val (.int p1), .val (.int p2), .val (.int p3), .unset] [(.int (1000 : Int32)), (.int (3 : Int32)), (.ref b14), (.ref b14)])) rfl rfl (hb hby d4_35)
    have N6 := N6 n0 N5 g_b14
    have K6 : Keep h0 h6 [] := K5.wr W6 (Or.inr sz_b14)
    have Z6 : n0 ≤ h6.size := Nat.le_trans Z0 K6.1
    have V6 : own_A Z h6 b14 k2 .int (8 : Int32) [(1 : Int32), (10 : Int32), (100 : Int32), (1000 : Int32), (0 : Int32), (0 : Int32), (0 : Int32), (0 : Int32)] := V6
    refine own_step (st6) ?_
    show own_Goes p.tables e below (T6.setTop (mkF m 36 #[.val (.long q0), .second, .val (.int p1), .val (.int p2), .val (.int p3), .unset] [(.ref b14)])) _
    refine own_step (fun _ => XS.dup X6.here hx rfl (hb hby d4_36) rfl rfl) ?_
    show own_Goes p.tables e below (T6.setTop (mkF m 37 #[.val (.long q0), .second, .val (.int p1), .val (.int p2), .val (.int p3), .unset] [(.ref b14), (.ref b14)])) _
    refine own_step (fun _ => XS.iconst X6.here hx rfl (hb hby d4_37)) ?_
    show own_Goes p.tables e below (T6.setTop (mkF m 38 #[.val (.long q0), .second, .val (.int p1), .val (.int p2), .val (.int p3), .unset] [(.int (4 : Int32)), (.ref b14), (.ref b14)])) _
    refine own_step (fun _ => XS.sipush X6.here hx rfl (hb hby d4_38)) ?_
    show own_Goes p.tables e below (T6.setTop (mkF m 41 #[.val (.long q0), .second, .val (.int p1), .val (.int p2), .val (.int p3), .unset] [(.int (10000 : Int32)), (.int (4 : Int32)), (.ref b14), (.ref b14)])) _
    obtain ⟨T7, h7, L7, X7, e7, N7, V7, W7, st7⟩ := own_stI X6 hx hZ e6 V6 (j := (4 : Int32)) 4 ⟨by decide, by decide⟩ (by decide) (show 4 < 8 by decide) (g := (mkF m 41 #[.val (.long q0), .second, .val (.int p1), .val (.int p2), .val (.int p3), .unset] [(.int (10000 : Int32)), (.int (4 : Int32)), (.ref b14), (.ref b14)])) rfl rfl (hb hby d4_41)
    have N7 := N7 n0 N6 g_b14
    have K7 : Keep h0 h7 [] := K6.wr W7 (Or.inr sz_b14)
    have Z7 : n0 ≤ h7.size := Nat.le_trans Z0 K7.1
    have V7 : own_A Z h7 b14 k2 .int (8 : Int32) [(1 : Int32), (10 : Int32), (100 : Int32), (1000 : Int32), (10000 : Int32), (0 : Int32), (0 : Int32), (0 : Int32)] := V7
    refine own_step (st7) ?_
    show own_Goes p.tables e below (T7.setTop (mkF m 42 #[.val (.long q0), .second, .val (.int p1), .val (.int p2), .val (.int p3), .unset] [(.ref b14)])) _
    refine own_step (fun _ => XS.dup X7.here hx rfl (hb hby d4_42) rfl rfl) ?_
    show own_Goes p.tables e below (T7.setTop (mkF m 43 #[.val (.long q0), .second, .val (.int p1), .val (.int p2), .val (.int p3), .unset] [(.ref b14), (.ref b14)])) _
    refine own_step (fun _ => XS.iconst X7.here hx rfl (hb hby d4_43)) ?_
    show own_Goes p.tables e below (T7.setTop (mkF m 44 #[.val (.long q0), .second, .val (.int p1), .val (.int p2), .val (.int p3), .unset] [(.int (5 : Int32)), (.ref b14), (.ref b14)])) _
    refine own_step (X7.ldcInt hx hown (mvT hZ (hw _ (List.mem_of_getElem? (i := 18) rfl))) (g := (mkF m 44 #[.val (.long q0), .second, .val (.int p1), .val (.int p2), .val (.int p3), .unset] [(.int (5 : Int32)), (.ref b14), (.ref b14)])) rfl (hb hby d4_44)) ?_
    show own_Goes p.tables e below (T7.setTop (mkF m 46 #[.val (.long q0), .second, .val (.int p1), .val (.int p2), .val (.int p3), .unset] [(.int (100000 : Int32)), (.int (5 : Int32)), (.ref b14), (.ref b14)])) _
    obtain ⟨T8, h8, L8, X8, e8, N8, V8, W8, st8⟩ := own_stI X7 hx hZ e7 V7 (j := (5 : Int32)) 5 ⟨by decide, by decide⟩ (by decide) (show 5 < 8 by decide) (g := (mkF m 46 #[.val (.long q0), .second, .val (.int p1), .val (.int p2), .val (.int p3), .unset] [(.int (100000 : Int32)), (.int (5 : Int32)), (.ref b14), (.ref b14)])) rfl rfl (hb hby d4_46)
    have N8 := N8 n0 N7 g_b14
    have K8 : Keep h0 h8 [] := K7.wr W8 (Or.inr sz_b14)
    have Z8 : n0 ≤ h8.size := Nat.le_trans Z0 K8.1
    have V8 : own_A Z h8 b14 k2 .int (8 : Int32) [(1 : Int32), (10 : Int32), (100 : Int32), (1000 : Int32), (10000 : Int32), (100000 : Int32), (0 : Int32), (0 : Int32)] := V8
    refine own_step (st8) ?_
    show own_Goes p.tables e below (T8.setTop (mkF m 47 #[.val (.long q0), .second, .val (.int p1), .val (.int p2), .val (.int p3), .unset] [(.ref b14)])) _
    refine own_step (fun _ => XS.dup X8.here hx rfl (hb hby d4_47) rfl rfl) ?_
    show own_Goes p.tables e below (T8.setTop (mkF m 48 #[.val (.long q0), .second, .val (.int p1), .val (.int p2), .val (.int p3), .unset] [(.ref b14), (.ref b14)])) _
    refine own_step (fun _ => XS.bipush X8.here hx rfl (hb hby d4_48)) ?_
    show own_Goes p.tables e below (T8.setTop (mkF m 50 #[.val (.long q0), .second, .val (.int p1), .val (.int p2), .val (.int p3), .unset] [(.int (6 : Int32)), (.ref b14), (.ref b14)])) _
    refine own_step (X8.ldcInt hx hown (mvT hZ (hw _ (List.mem_of_getElem? (i := 19) rfl))) (g := (mkF m 50 #[.val (.long q0), .second, .val (.int p1), .val (.int p2), .val (.int p3), .unset] [(.int (6 : Int32)), (.ref b14), (.ref b14)])) rfl (hb hby d4_50)) ?_
    show own_Goes p.tables e below (T8.setTop (mkF m 52 #[.val (.long q0), .second, .val (.int p1), .val (.int p2), .val (.int p3), .unset] [(.int (1000000 : Int32)), (.int (6 : Int32)), (.ref b14), (.ref b14)])) _
    obtain ⟨T9, h9, L9, X9, e9, N9, V9, W9, st9⟩ := own_stI X8 hx hZ e8 V8 (j := (6 : Int32)) 6 ⟨by decide, by decide⟩ (by decide) (show 6 < 8 by decide) (g := (mkF m 52 #[.val (.long q0), .second, .val (.int p1), .val (.int p2), .val (.int p3), .unset] [(.int (1000000 : Int32)), (.int (6 : Int32)), (.ref b14), (.ref b14)])) rfl rfl (hb hby d4_52)
    have N9 := N9 n0 N8 g_b14
    have K9 : Keep h0 h9 [] := K8.wr W9 (Or.inr sz_b14)
    have Z9 : n0 ≤ h9.size := Nat.le_trans Z0 K9.1
    have V9 : own_A Z h9 b14 k2 .int (8 : Int32) [(1 : Int32), (10 : Int32), (100 : Int32), (1000 : Int32), (10000 : Int32), (100000 : Int32), (1000000 : Int32), (0 : Int32)] := V9
    refine own_step (st9) ?_
    show own_Goes p.tables e below (T9.setTop (mkF m 53 #[.val (.long q0), .second, .val (.int p1), .val (.int p2), .val (.int p3), .unset] [(.ref b14)])) _
    refine own_step (fun _ => XS.dup X9.here hx rfl (hb hby d4_53) rfl rfl) ?_
    show own_Goes p.tables e below (T9.setTop (mkF m 54 #[.val (.long q0), .second, .val (.int p1), .val (.int p2), .val (.int p3), .unset] [(.ref b14), (.ref b14)])) _
    refine own_step (fun _ => XS.bipush X9.here hx rfl (hb hby d4_54)) ?_
    show own_Goes p.tables e below (T9.setTop (mkF m 56 #[.val (.long q0), .second, .val (.int p1), .val (.int p2), .val (.int p3), .unset] [(.int (7 : Int32)), (.ref b14), (.ref b14)])) _
    refine own_step (X9.ldcInt hx hown (mvT hZ (hw _ (List.mem_of_getElem? (i := 20) rfl))) (g := (mkF m 56 #[.val (.long q0), .second, .val (.int p1), .val (.int p2), .val (.int p3), .unset] [(.int (7 : Int32)), (.ref b14), (.ref b14)])) rfl (hb hby d4_56)) ?_
    show own_Goes p.tables e below (T9.setTop (mkF m 58 #[.val (.long q0), .second, .val (.int p1), .val (.int p2), .val (.int p3), .unset] [(.int (10000000 : Int32)), (.int (7 : Int32)), (.ref b14), (.ref b14)])) _
    obtain ⟨T10, h10, L10, X10, e10, N10, V10, W10, st10⟩ := own_stI X9 hx hZ e9 V9 (j := (7 : Int32)) 7 ⟨by decide, by decide⟩ (by decide) (show 7 < 8 by decide) (g := (mkF m 58 #[.val (.long q0), .second, .val (.int p1), .val (.int p2), .val (.int p3), .unset] [(.int (10000000 : Int32)), (.int (7 : Int32)), (.ref b14), (.ref b14)])) rfl rfl (hb hby d4_58)
    have N10 := N10 n0 N9 g_b14
    have K10 : Keep h0 h10 [] := K9.wr W10 (Or.inr sz_b14)
    have Z10 : n0 ≤ h10.size := Nat.le_trans Z0 K10.1
    have V10 : own_A Z h10 b14 k2 .int (8 : Int32) [(1 : Int32), (10 : Int32), (100 : Int32), (1000 : Int32), (10000 : Int32), (100000 : Int32), (1000000 : Int32), (10000000 : Int32)] := V10
    refine own_step (st10) ?_
    show own_Goes p.tables e below (T10.setTop (mkF m 59 #[.val (.long q0), .second, .val (.int p1), .val (.int p2), .val (.int p3), .unset] [(.ref b14)])) _
    have V_own_tb : own_A Z h10 b14 k2 .int (8 : Int32) own_tb := V10
    refine own_step (fun _ => XS.astore X10.here hx rfl (hb hby d4_59) rfl rfl (l' := #[.val (.long q0), .second, .val (.int p1), .val (.int p2), .val (.int p3), .val (.ref b14)]) rfl) ?_
    show own_Goes p.tables e below (T10.setTop (mkF m 61 #[.val (.long q0), .second, .val (.int p1), .val (.int p2), .val (.int p3), .val (.ref b14)] [])) _
    refine own_step (fun _ => XS.lloadN X10.here hx rfl (hb hby d4_61) rfl) ?_
    show own_Goes p.tables e below (T10.setTop (mkF m 62 #[.val (.long q0), .second, .val (.int p1), .val (.int p2), .val (.int p3), .val (.ref b14)] [(.long q0)])) _
    refine own_step (fun _ => XS.iloadN X10.here hx rfl (hb hby d4_62) rfl) ?_
    show own_Goes p.tables e below (T10.setTop (mkF m 63 #[.val (.long q0), .second, .val (.int p1), .val (.int p2), .val (.int p3), .val (.ref b14)] [(.int p1), (.long q0)])) _
    obtain ⟨_, _, ⟨T11, L11, k11, n11⟩, -, X11, ⟨Lc11, hQ11, l11, y11, z11⟩, st11⟩ := Jvm.LawKit.callS X10 hx (y := (⟨"com/example/kolektyv/kolektyv/records/BytesDigitsPinLaw", "digitAt", "(JI)J"⟩ : MethodName)) hown (mvT hZ (hw _ (List.mem_of_getElem? (i := 9) rfl))) (mvT hZ (hw _ (List.mem_of_getElem? (i := 10) rfl))) (mvT hZ (hw _ (List.mem_of_getElem? (i := 3) rfl))) (mvT hZ (hw _ (List.mem_of_getElem? (i := 11) rfl))) (by decide) (backOf (W := 0) (rm3 l Z a0 hw [] q0 p1 h10 n0 Z10) hZ (hw _ (List.mem_of_getElem? (i := 11) rfl)) (hw _ (List.mem_of_getElem? (i := 3) rfl)) (by decide) (by decide)) (g := (mkF m 63 #[.val (.long q0), .second, .val (.int p1), .val (.int p2), .val (.int p3), .val (.ref b14)] [(.int p1), (.long q0)])) rfl (by rw [hml]; rfl) (argsL := [(.long q0), (.int p1)]) (rest := []) (lenOf pd_4_1 rfl) rfl (by show 2 * 0 + _ ≤ _; exact Nat.le_of_eq rfl) (hb hby d4_63) (fun _ _ => ⟨rfl, e10, (by decide : (0 + 1) + 0 ≤ _), (by decide : (0 + 8) + 0 ≤ _)⟩)
    dsimp only [Pt.U, Pt.locs, Pt.cells, Pt.slots] at X11 l11 y11 z11 st11 hQ11
    subst l11 y11 z11
    obtain ⟨rfl, rfl, e11⟩ := hQ11
    have X11 : Stand p l e own_room4 s m #[(.long q0), (.int p1), (.int p2), (.int p3)] below meth c T11 L10 (0 + 1) (0 + 8) := own_flat X11
    refine own_step (st11) ?_
    show own_Goes p.tables e below (T11.setTop (mkF m 66 #[.val (.long q0), .second, .val (.int p1), .val (.int p2), .val (.int p3), .val (.ref b14)] [(.long (own_f3 q0 p1))])) _
    refine own_step (fun _ => XS.l2i X11.here hx rfl (hb hby d4_66) rfl) ?_
    show own_Goes p.tables e below (T11.setTop (mkF m 67 #[.val (.long q0), .second, .val (.int p1), .val (.int p2), .val (.int p3), .val (.ref b14)] [(.int ((own_f3 q0 p1).toInt32))])) _
    refine own_step (fun _ => XS.aload X11.here hx rfl (hb hby d4_67) rfl rfl) ?_
    show own_Goes p.tables e below (T11.setTop (mkF m 69 #[.val (.long q0), .second, .val (.int p1), .val (.int p2), .val (.int p3), .val (.ref b14)] [(.ref b14), (.int ((own_f3 q0 p1).toInt32))])) _
    refine own_step (fun _ => XS.iloadN X11.here hx rfl (hb hby d4_69) rfl) ?_
    show own_Goes p.tables e below (T11.setTop (mkF m 70 #[.val (.long q0), .second, .val (.int p1), .val (.int p2), .val (.int p3), .val (.ref b14)] [(.int p2), (.ref b14), (.int ((own_f3 q0 p1).toInt32))])) _
    refine own_step (fun _ => XS.iload X11.here hx rfl (hb hby d4_70) rfl) ?_
    show own_Goes p.tables e below (T11.setTop (mkF m 72 #[.val (.long q0), .second, .val (.int p1), .val (.int p2), .val (.int p3), .val (.ref b14)] [(.int p3), (.int p2), (.ref b14), (.int ((own_f3 q0 p1).toInt32))])) _
    refine own_step (fun _ => XS.iadd X11.here hx rfl (hb hby d4_72) rfl) ?_
    show own_Goes p.tables e below (T11.setTop (mkF m 73 #[.val (.long q0), .second, .val (.int p1), .val (.int p2), .val (.int p3), .val (.ref b14)] [(.int (p2 + p3)), (.ref b14), (.int ((own_f3 q0 p1).toInt32))])) _
    refine own_step (fun _ => XS.iconst X11.here hx rfl (hb hby d4_73)) ?_
    show own_Goes p.tables e below (T11.setTop (mkF m 74 #[.val (.long q0), .second, .val (.int p1), .val (.int p2), .val (.int p3), .val (.ref b14)] [(.int (1 : Int32)), (.int (p2 + p3)), (.ref b14), (.int ((own_f3 q0 p1).toInt32))])) _
    refine own_step (fun _ => XS.isub X11.here hx rfl (hb hby d4_74) rfl) ?_
    show own_Goes p.tables e below (T11.setTop (mkF m 75 #[.val (.long q0), .second, .val (.int p1), .val (.int p2), .val (.int p3), .val (.ref b14)] [(.int ((p2 + p3) - (1 : Int32))), (.ref b14), (.int ((own_f3 q0 p1).toInt32))])) _
    refine own_step (fun _ => XS.iloadN X11.here hx rfl (hb hby d4_75) rfl) ?_
    show own_Goes p.tables e below (T11.setTop (mkF m 76 #[.val (.long q0), .second, .val (.int p1), .val (.int p2), .val (.int p3), .val (.ref b14)] [(.int p1), (.int ((p2 + p3) - (1 : Int32))), (.ref b14), (.int ((own_f3 q0 p1).toInt32))])) _
    refine own_step (fun _ => XS.isub X11.here hx rfl (hb hby d4_76) rfl) ?_
    show own_Goes p.tables e below (T11.setTop (mkF m 77 #[.val (.long q0), .second, .val (.int p1), .val (.int p2), .val (.int p3), .val (.ref b14)] [(.int (((p2 + p3) - (1 : Int32)) - p1)), (.ref b14), (.int ((own_f3 q0 p1).toInt32))])) _
    refine own_step (own_ldI X11 hx hZ e11 V_own_tb (j := (((p2 + p3) - (1 : Int32)) - p1)) (own_idx hp hc7) (g := (mkF m 77 #[.val (.long q0), .second, .val (.int p1), .val (.int p2), .val (.int p3), .val (.ref b14)] [(.int (((p2 + p3) - (1 : Int32)) - p1)), (.ref b14), (.int ((own_f3 q0 p1).toInt32))])) rfl rfl (hb hby d4_77)) ?_
    show own_Goes p.tables e below (T11.setTop (mkF m 78 #[.val (.long q0), .second, .val (.int p1), .val (.int p2), .val (.int p3), .val (.ref b14)] [(.int (own_tb.getD (((p2 + p3) - (1 : Int32)) - p1).toNatClampNeg 0)), (.int ((own_f3 q0 p1).toInt32))])) _
    refine own_step (fun _ => XS.imul X11.here hx rfl (hb hby d4_78) rfl) ?_
    show own_Goes p.tables e below (T11.setTop (mkF m 79 #[.val (.long q0), .second, .val (.int p1), .val (.int p2), .val (.int p3), .val (.ref b14)] [(.int (((own_f3 q0 p1).toInt32) * (own_tb.getD (((p2 + p3) - (1 : Int32)) - p1).toNatClampNeg 0)))])) _
    have hv : (own_f4 q0 p1 p2 p3) = (((own_f3 q0 p1).toInt32) * (own_tb.getD (((p2 + p3) - (1 : Int32)) - p1).toNatClampNeg 0)) := by exact (if_neg hc7)
    rw [hv]
    exact own_retI X11 hx Bd.returns (hb hby d4_79) (BodyLoose.notSynchronized Bd) ⟨rfl, N10, by rw [e11]; exact K10⟩ (by decide) (by decide)
theorem d5_0 : decode prog_16_method_4_code 0 = .ok (.iconst 0, 1) := by decide +kernel
theorem d5_1 : decode prog_16_method_4_code 1 = .ok (.istore 4, 2) := by decide +kernel
theorem d5_3 : decode prog_16_method_4_code 3 = .ok (.iload_n 2, 1) := by decide +kernel
theorem d5_4 : decode prog_16_method_4_code 4 = .ok (.istore 5, 2) := by decide +kernel
theorem d5_6 : decode prog_16_method_4_code 6 = .ok (.iload 5, 2) := by decide +kernel
theorem d5_8 : decode prog_16_method_4_code 8 = .ok (.iload_n 2, 1) := by decide +kernel
theorem d5_9 : decode prog_16_method_4_code 9 = .ok (.iload_n 3, 1) := by decide +kernel
theorem d5_10 : decode prog_16_method_4_code 10 = .ok (.iadd, 1) := by decide +kernel
theorem d5_11 : decode prog_16_method_4_code 11 = .ok (.if_icmp .ge 32, 3) := by decide +kernel
theorem d5_14 : decode prog_16_method_4_code 14 = .ok (.bipush 10, 2) := by decide +kernel
theorem d5_16 : decode prog_16_method_4_code 16 = .ok (.iload 4, 2) := by decide +kernel
theorem d5_18 : decode prog_16_method_4_code 18 = .ok (.imul, 1) := by decide +kernel
theorem d5_19 : decode prog_16_method_4_code 19 = .ok (.lload_n 0, 1) := by decide +kernel
theorem d5_20 : decode prog_16_method_4_code 20 = .ok (.bipush 8, 2) := by decide +kernel
theorem d5_22 : decode prog_16_method_4_code 22 = .ok (.iload 5, 2) := by decide +kernel
theorem d5_24 : decode prog_16_method_4_code 24 = .ok (.imul, 1) := by decide +kernel
theorem d5_25 : decode prog_16_method_4_code 25 = .ok (.lushr, 1) := by decide +kernel
theorem d5_26 : decode prog_16_method_4_code 26 = .ok (.ldc2_w 25, 3) := by decide +kernel
theorem d5_29 : decode prog_16_method_4_code 29 = .ok (.land, 1) := by decide +kernel
theorem d5_30 : decode prog_16_method_4_code 30 = .ok (.l2i, 1) := by decide +kernel
theorem d5_31 : decode prog_16_method_4_code 31 = .ok (.iadd, 1) := by decide +kernel
theorem d5_32 : decode prog_16_method_4_code 32 = .ok (.bipush 48, 2) := by decide +kernel
theorem d5_34 : decode prog_16_method_4_code 34 = .ok (.isub, 1) := by decide +kernel
theorem d5_35 : decode prog_16_method_4_code 35 = .ok (.istore 4, 2) := by decide +kernel
theorem d5_37 : decode prog_16_method_4_code 37 = .ok (.iinc 5 1, 3) := by decide +kernel
theorem d5_40 : decode prog_16_method_4_code 40 = .ok (.goto (-34), 3) := by decide +kernel
theorem d5_43 : decode prog_16_method_4_code 43 = .ok (.iload 4, 2) := by decide +kernel
theorem d5_45 : decode prog_16_method_4_code 45 = .ok (.ireturn, 1) := by decide +kernel
theorem pn_5 : plainName "com/example/kolektyv/kolektyv/records/Bytes" = true := by first | (simp [plainName, overriddenIn]; done) | decide +kernel
theorem ef_5 (m : MethodId) (q0 : Int64) (p1 : Int32) (p2 : Int32) : entryFrame m #[(.long q0), (.int p1), (.int p2)] 6 = mkF m 0 #[.val (.long q0), .second, .val (.int p1), .val (.int p2), .unset, .unset] [] := by first | (simp [entryFrame, mkF, argsToLocals, Value.category]; done) | rfl
def own_f5_6 (q0 : Int64) (p1 : Int32) (p2 : Int32) : Nat → Int32 → Int32 → Int32
  | 0, _, _ => 0
  | fuel + 1, v6_l4, v6_l5 =>
  if v6_l5 < (p1 + p2) then
    let z35 : Int32 := ((((10 : Int32) * v6_l4) + ((((q0.toUInt64 >>> (((8 : Int32) * v6_l5) &&& 0x3f).toInt64.toUInt64).toInt64) &&& (255 : Int64)).toInt32)) - (48 : Int32))
    (own_f5_6 q0 p1 p2 fuel z35 (v6_l5 + (1 : Int32)))
  else
    v6_l4
def own_f5 (q0 : Int64) (p1 : Int32) (p2 : Int32) : Int32 :=
  (own_f5_6 q0 p1 p2 9 (0 : Int32) p1)
abbrev own_room5 : Room := { frames := 0, cells := 0, slots := 0, locals := 0 }
set_option maxRecDepth 65536 in
set_option maxHeartbeats 40000000 in
theorem rm5 (l : Launch) (Z : State) (a0 : Array Value) (hw : ∀ d ∈ tables_1, d.before a0 Z = true) (ws : List Jvm.Cond) (q0 : Int64) (p1 : Int32) (p2 : Int32) (h0 : Heap) (n0 : Nat) (Z0 : n0 ≤ h0.size) (hp : own_small p1 p2) :
    MetFree l (⟨"com/example/kolektyv/kolektyv/records/Bytes", "digits", "(JII)I"⟩ : MethodName) (head1 (Jvm.Cond.code (⟨"com/example/kolektyv/kolektyv/records/Bytes", "digits", "(JII)I"⟩ : MethodName) prog_16_method_4_code 6 (some .int) :: ws) own_room5) (fun a U => a = #[(.long q0), (.int p1), (.int p2)] ∧ Z.Warmed39 U.vm ∧ U.heap = h0) (fun _ _ _ _ _ => True) (fun _ U o U' => ∃ v L, o = .returned v ∧ own_Qp (some (.int (own_f5 q0 p1 p2))) h0 v U'.heap L ∧ FrameEnd U o U' L own_room5.cells own_room5.slots) := by
  refine MetFree.of_bodySF (plainFor_of_name pn_5) hisR ?_
  intro p e s m args below meth c s₁ Bd hml0 hP hK
  obtain ⟨rfl, hZ, hh⟩ := hP
  have hx := Bd.exec
  have hby := Bd.bytes
  have hml : c.maxLocals = 6 := hml0
  have hown : s.vm.findClass "com/example/kolektyv/kolektyv/records/Bytes" = some m.cls := findClass_of_methodNamed Bd.named
  have hnm := (name_of_methodNamed Bd.named Bd.method).1
  have X0 : Stand p l e own_room5 s m #[(.long q0), (.int p1), (.int p2)] below meth c s₁ [] 0 0 := Stand.of_body Bd
  have e0 : s₁.heap = h0 := by rw [← hh, Bd.state]; rfl
  have N0 := Fr.nil n0
  refine own_enter (ef_5 m q0 p1 p2) ?_
  show own_Goes p.tables e below (s₁.setTop (mkF m 0 #[.val (.long q0), .second, .val (.int p1), .val (.int p2), .unset, .unset] [])) (own_P s (own_Qp (some (.int (own_f5 q0 p1 p2))) h0) own_room5.cells own_room5.slots)
  have J6 : ∀ (fuel : Nat) (T_6 : State) (X_6 : Stand p l e own_room5 s m #[(.long q0), (.int p1), (.int p2)] below meth c T_6 [] 0 0) (e_6 : T_6.heap = h0) (v6_l4 : Int32) (v6_l5 : Int32) (hH : 0 ≤ (p1 + p2).toInt - v6_l5.toInt ∧ (p1 + p2).toInt - v6_l5.toInt < (fuel : Int)), own_Goes p.tables e below (T_6.setTop (mkF m 6 #[.val (.long q0), .second, .val (.int p1), .val (.int p2), .val (.int v6_l4), .val (.int v6_l5)] [])) (own_P s (own_Qp (some (.int (own_f5_6 q0 p1 p2 fuel v6_l4 v6_l5))) h0) own_room5.cells own_room5.slots) := by
    intro fuel
    induction fuel with
    | zero => intro T_6 X_6 e_6 v6_l4 v6_l5 hH; exact absurd hH (by omega)
    | succ fuel ih =>
      intro T_6 X_6 e_6 v6_l4 v6_l5 hH
      refine own_step (fun _ => XS.iload X_6.here hx rfl (hb hby d5_6) rfl) ?_
      show own_Goes p.tables e below (T_6.setTop (mkF m 8 #[.val (.long q0), .second, .val (.int p1), .val (.int p2), .val (.int v6_l4), .val (.int v6_l5)] [(.int v6_l5)])) _
      refine own_step (fun _ => XS.iloadN X_6.here hx rfl (hb hby d5_8) rfl) ?_
      show own_Goes p.tables e below (T_6.setTop (mkF m 9 #[.val (.long q0), .second, .val (.int p1), .val (.int p2), .val (.int v6_l4), .val (.int v6_l5)] [(.int p1), (.int v6_l5)])) _
      refine own_step (fun _ => XS.iloadN X_6.here hx rfl (hb hby d5_9) rfl) ?_
      show own_Goes p.tables e below (T_6.setTop (mkF m 10 #[.val (.long q0), .second, .val (.int p1), .val (.int p2), .val (.int v6_l4), .val (.int v6_l5)] [(.int p2), (.int p1), (.int v6_l5)])) _
      refine own_step (fun _ => XS.iadd X_6.here hx rfl (hb hby d5_10) rfl) ?_
      show own_Goes p.tables e below (T_6.setTop (mkF m 11 #[.val (.long q0), .second, .val (.int p1), .val (.int p2), .val (.int v6_l4), .val (.int v6_l5)] [(.int (p1 + p2)), (.int v6_l5)])) _
      by_cases hc11 : v6_l5 < (p1 + p2)
      · refine own_step (fun _ => XS.icmpNo X_6.here hx rfl (hb hby d5_11) rfl (Jvm.Free.XT.ii_ge_f hc11)) ?_
        show own_Goes p.tables e below (T_6.setTop (mkF m 14 #[.val (.long q0), .second, .val (.int p1), .val (.int p2), .val (.int v6_l4), .val (.int v6_l5)] [])) _
        refine own_step (fun _ => XS.bipush X_6.here hx rfl (hb hby d5_14)) ?_
        show own_Goes p.tables e below (T_6.setTop (mkF m 16 #[.val (.long q0), .second, .val (.int p1), .val (.int p2), .val (.int v6_l4), .val (.int v6_l5)] [(.int (10 : Int32))])) _
        refine own_step (fun _ => XS.iload X_6.here hx rfl (hb hby d5_16) rfl) ?_
        show own_Goes p.tables e below (T_6.setTop (mkF m 18 #[.val (.long q0), .second, .val (.int p1), .val (.int p2), .val (.int v6_l4), .val (.int v6_l5)] [(.int v6_l4), (.int (10 : Int32))])) _
        refine own_step (fun _ => XS.imul X_6.here hx rfl (hb hby d5_18) rfl) ?_
        show own_Goes p.tables e below (T_6.setTop (mkF m 19 #[.val (.long q0), .second, .val (.int p1), .val (.int p2), .val (.int v6_l4), .val (.int v6_l5)] [(.int ((10 : Int32) * v6_l4))])) _
        refine own_step (fun _ => XS.lloadN X_6.here hx rfl (hb hby d5_19) rfl) ?_
        show own_Goes p.tables e below (T_6.setTop (mkF m 20 #[.val (.long q0), .second, .val (.int p1), .val (.int p2), .val (.int v6_l4), .val (.int v6_l5)] [(.long q0), (.int ((10 : Int32) * v6_l4))])) _
        refine own_step (fun _ => XS.bipush X_6.here hx rfl (hb hby d5_20)) ?_
        show own_Goes p.tables e below (T_6.setTop (mkF m 22 #[.val (.long q0), .second, .val (.int p1), .val (.int p2), .val (.int v6_l4), .val (.int v6_l5)] [(.int (8 : Int32)), (.long q0), (.int ((10 : Int32) * v6_l4))])) _
        refine own_step (fun _ => XS.iload X_6.here hx rfl (hb hby d5_22) rfl) ?_
        show own_Goes p.tables e below (T_6.setTop (mkF m 24 #[.val (.long q0), .second, .val (.int p1), .val (.int p2), .val (.int v6_l4), .val (.int v6_l5)] [(.int v6_l5), (.int (8 : Int32)), (.long q0), (.int ((10 : Int32) * v6_l4))])) _
        refine own_step (fun _ => XS.imul X_6.here hx rfl (hb hby d5_24) rfl) ?_
        show own_Goes p.tables e below (T_6.setTop (mkF m 25 #[.val (.long q0), .second, .val (.int p1), .val (.int p2), .val (.int v6_l4), .val (.int v6_l5)] [(.int ((8 : Int32) * v6_l5)), (.long q0), (.int ((10 : Int32) * v6_l4))])) _
        refine own_step (fun _ => XS.lushr X_6.here hx rfl (hb hby d5_25) rfl) ?_
        show own_Goes p.tables e below (T_6.setTop (mkF m 26 #[.val (.long q0), .second, .val (.int p1), .val (.int p2), .val (.int v6_l4), .val (.int v6_l5)] [(.long ((q0.toUInt64 >>> (((8 : Int32) * v6_l5) &&& 0x3f).toInt64.toUInt64).toInt64)), (.int ((10 : Int32) * v6_l4))])) _
        refine own_step (X_6.ldc2Long hx hown (mvT hZ (hw _ (List.mem_of_getElem? (i := 25) rfl))) (g := (mkF m 26 #[.val (.long q0), .second, .val (.int p1), .val (.int p2), .val (.int v6_l4), .val (.int v6_l5)] [(.long ((q0.toUInt64 >>> (((8 : Int32) * v6_l5) &&& 0x3f).toInt64.toUInt64).toInt64)), (.int ((10 : Int32) * v6_l4))])) rfl (hb hby d5_26)) ?_
        show own_Goes p.tables e below (T_6.setTop (mkF m 29 #[.val (.long q0), .second, .val (.int p1), .val (.int p2), .val (.int v6_l4), .val (.int v6_l5)] [(.long (255 : Int64)), (.long ((q0.toUInt64 >>> (((8 : Int32) * v6_l5) &&& 0x3f).toInt64.toUInt64).toInt64)), (.int ((10 : Int32) * v6_l4))])) _
        refine own_step (fun _ => XS.land X_6.here hx rfl (hb hby d5_29) rfl) ?_
        show own_Goes p.tables e below (T_6.setTop (mkF m 30 #[.val (.long q0), .second, .val (.int p1), .val (.int p2), .val (.int v6_l4), .val (.int v6_l5)] [(.long (((q0.toUInt64 >>> (((8 : Int32) * v6_l5) &&& 0x3f).toInt64.toUInt64).toInt64) &&& (255 : Int64))), (.int ((10 : Int32) * v6_l4))])) _
        refine own_step (fun _ => XS.l2i X_6.here hx rfl (hb hby d5_30) rfl) ?_
        show own_Goes p.tables e below (T_6.setTop (mkF m 31 #[.val (.long q0), .second, .val (.int p1), .val (.int p2), .val (.int v6_l4), .val (.int v6_l5)] [(.int ((((q0.toUInt64 >>> (((8 : Int32) * v6_l5) &&& 0x3f).toInt64.toUInt64).toInt64) &&& (255 : Int64)).toInt32)), (.int ((10 : Int32) * v6_l4))])) _
        refine own_step (fun _ => XS.iadd X_6.here hx rfl (hb hby d5_31) rfl) ?_
        show own_Goes p.tables e below (T_6.setTop (mkF m 32 #[.val (.long q0), .second, .val (.int p1), .val (.int p2), .val (.int v6_l4), .val (.int v6_l5)] [(.int (((10 : Int32) * v6_l4) + ((((q0.toUInt64 >>> (((8 : Int32) * v6_l5) &&& 0x3f).toInt64.toUInt64).toInt64) &&& (255 : Int64)).toInt32)))])) _
        refine own_step (fun _ => XS.bipush X_6.here hx rfl (hb hby d5_32)) ?_
        show own_Goes p.tables e below (T_6.setTop (mkF m 34 #[.val (.long q0), .second, .val (.int p1), .val (.int p2), .val (.int v6_l4), .val (.int v6_l5)] [(.int (48 : Int32)), (.int (((10 : Int32) * v6_l4) + ((((q0.toUInt64 >>> (((8 : Int32) * v6_l5) &&& 0x3f).toInt64.toUInt64).toInt64) &&& (255 : Int64)).toInt32)))])) _
        refine own_step (fun _ => XS.isub X_6.here hx rfl (hb hby d5_34) rfl) ?_
        show own_Goes p.tables e below (T_6.setTop (mkF m 35 #[.val (.long q0), .second, .val (.int p1), .val (.int p2), .val (.int v6_l4), .val (.int v6_l5)] [(.int ((((10 : Int32) * v6_l4) + ((((q0.toUInt64 >>> (((8 : Int32) * v6_l5) &&& 0x3f).toInt64.toUInt64).toInt64) &&& (255 : Int64)).toInt32)) - (48 : Int32)))])) _
        obtain ⟨z35, hz35⟩ : ∃ z : Int32, z = ((((10 : Int32) * v6_l4) + ((((q0.toUInt64 >>> (((8 : Int32) * v6_l5) &&& 0x3f).toInt64.toUInt64).toInt64) &&& (255 : Int64)).toInt32)) - (48 : Int32)) := ⟨_, rfl⟩
        refine own_step (fun _ => XS.istore X_6.here hx rfl (hb hby d5_35) rfl (l' := #[.val (.long q0), .second, .val (.int p1), .val (.int p2), .val (.int z35), .val (.int v6_l5)]) (by subst hz35; rfl)) ?_
        show own_Goes p.tables e below (T_6.setTop (mkF m 37 #[.val (.long q0), .second, .val (.int p1), .val (.int p2), .val (.int z35), .val (.int v6_l5)] [])) _
        refine own_step (fun _ => XS.iinc X_6.here hx rfl (hb hby d5_37) rfl (l' := #[.val (.long q0), .second, .val (.int p1), .val (.int p2), .val (.int z35), .val (.int (v6_l5 + (1 : Int32)))]) rfl) ?_
        show own_Goes p.tables e below (T_6.setTop (mkF m 40 #[.val (.long q0), .second, .val (.int p1), .val (.int p2), .val (.int z35), .val (.int (v6_l5 + (1 : Int32)))] [])) _
        refine own_step (fun _ => XS.goto X_6.here hx rfl (pc0 := 40) (pc' := 6) rfl (hb hby d5_40) (by decide) (by decide)) ?_
        show own_Goes p.tables e below (T_6.setTop (mkF m 6 #[.val (.long q0), .second, .val (.int p1), .val (.int p2), .val (.int z35), .val (.int (v6_l5 + (1 : Int32)))] [])) _
        have hv : (own_f5_6 q0 p1 p2 (fuel + 1) v6_l4 v6_l5) = (own_f5_6 q0 p1 p2 fuel z35 (v6_l5 + (1 : Int32))) := by subst hz35; exact (if_pos hc11)
        rw [hv]
        exact ih T_6 X_6 e_6 z35 (v6_l5 + (1 : Int32)) (own_invS hc11 hH)
      · refine own_step (fun _ => XS.icmpYes X_6.here hx rfl (pc0 := 11) (pc' := 43) rfl (hb hby d5_11) rfl (Jvm.Free.XT.ii_ge_t hc11) (by decide) (by decide)) ?_
        show own_Goes p.tables e below (T_6.setTop (mkF m 43 #[.val (.long q0), .second, .val (.int p1), .val (.int p2), .val (.int v6_l4), .val (.int v6_l5)] [])) _
        refine own_step (fun _ => XS.iload X_6.here hx rfl (hb hby d5_43) rfl) ?_
        show own_Goes p.tables e below (T_6.setTop (mkF m 45 #[.val (.long q0), .second, .val (.int p1), .val (.int p2), .val (.int v6_l4), .val (.int v6_l5)] [(.int v6_l4)])) _
        have hv : (own_f5_6 q0 p1 p2 (fuel + 1) v6_l4 v6_l5) = v6_l4 := by exact (if_neg hc11)
        rw [hv]
        exact own_retI X_6 hx Bd.returns (hb hby d5_45) (BodyLoose.notSynchronized Bd) ⟨rfl, rfl, e_6⟩ (by decide) (by decide)
  refine own_step (fun _ => XS.iconst X0.here hx rfl (hb hby d5_0)) ?_
  show own_Goes p.tables e below (s₁.setTop (mkF m 1 #[.val (.long q0), .second, .val (.int p1), .val (.int p2), .unset, .unset] [(.int (0 : Int32))])) _
  refine own_step (fun _ => XS.istore X0.here hx rfl (hb hby d5_1) rfl (l' := #[.val (.long q0), .second, .val (.int p1), .val (.int p2), .val (.int (0 : Int32)), .unset]) rfl) ?_
  show own_Goes p.tables e below (s₁.setTop (mkF m 3 #[.val (.long q0), .second, .val (.int p1), .val (.int p2), .val (.int (0 : Int32)), .unset] [])) _
  refine own_step (fun _ => XS.iloadN X0.here hx rfl (hb hby d5_3) rfl) ?_
  show own_Goes p.tables e below (s₁.setTop (mkF m 4 #[.val (.long q0), .second, .val (.int p1), .val (.int p2), .val (.int (0 : Int32)), .unset] [(.int p1)])) _
  refine own_step (fun _ => XS.istore X0.here hx rfl (hb hby d5_4) rfl (l' := #[.val (.long q0), .second, .val (.int p1), .val (.int p2), .val (.int (0 : Int32)), .val (.int p1)]) rfl) ?_
  show own_Goes p.tables e below (s₁.setTop (mkF m 6 #[.val (.long q0), .second, .val (.int p1), .val (.int p2), .val (.int (0 : Int32)), .val (.int p1)] [])) _
  have hv : (own_f5 q0 p1 p2) = (own_f5_6 q0 p1 p2 9 (0 : Int32) p1) := by exact rfl
  rw [hv]
  exact J6 9 s₁ X0 e0 (0 : Int32) p1 (own_inv0 hp)
theorem pn_0 : plainName "com/example/kolektyv/kolektyv/records/BytesDigitsPinLaw" = true := by first | (simp [plainName, overriddenIn]; done) | decide +kernel
theorem pd_0_0 : parseMethodDescriptor "(JJIII)J" = some ⟨[.long, .long, .int, .int, .int], some .long⟩ := by decide +kernel
theorem pd_0_1 : parseMethodDescriptor "(JIII)I" = some ⟨[.long, .int, .int, .int], some .int⟩ := by decide +kernel
theorem pd_0_2 : parseMethodDescriptor "(JII)I" = some ⟨[.long, .int, .int], some .int⟩ := by decide +kernel
theorem ef_0 (m : MethodId) (q0 : Int64) (q1 : Int64) (p2 : Int32) (p3 : Int32) : entryFrame m #[(.long q0), (.long q1), (.int p2), (.int p3)] maxLocals = mkF m 0 #[.val (.long q0), .second, .val (.long q1), .second, .val (.int p2), .val (.int p3), .unset, .unset, .unset, .unset, .unset] [] := by first | (simp [entryFrame, mkF, argsToLocals, Value.category, maxLocals]; done) | rfl
def own_f0 (q0 : Int64) (q1 : Int64) (p2 : Int32) (p3 : Int32) : Int32 :=
  let z8 : Int32 := ((p2 &&& (2147483647 : Int32)) - (p2 &&& (2147483647 : Int32)) / (9 : Int32) * (9 : Int32))
  let z21 : Int32 := ((p3 &&& (2147483647 : Int32)) - (p3 &&& (2147483647 : Int32)) / ((9 : Int32) - z8) * ((9 : Int32) - z8))
  let z112 : Int64 := ((((((((own_f1 q0 q1 (0 : Int32) z8 z21) ||| (own_f1 q0 q1 (1 : Int32) z8 z21)) ||| (own_f1 q0 q1 (2 : Int32) z8 z21)) ||| (own_f1 q0 q1 (3 : Int32) z8 z21)) ||| (own_f1 q0 q1 (4 : Int32) z8 z21)) ||| (own_f1 q0 q1 (5 : Int32) z8 z21)) ||| (own_f1 q0 q1 (6 : Int32) z8 z21)) ||| (own_f1 q0 q1 (7 : Int32) z8 z21))
  let z195 : Int32 := ((((((((own_f4 q0 (0 : Int32) z8 z21) + (own_f4 q0 (1 : Int32) z8 z21)) + (own_f4 q0 (2 : Int32) z8 z21)) + (own_f4 q0 (3 : Int32) z8 z21)) + (own_f4 q0 (4 : Int32) z8 z21)) + (own_f4 q0 (5 : Int32) z8 z21)) + (own_f4 q0 (6 : Int32) z8 z21)) + (own_f4 q0 (7 : Int32) z8 z21))
  if (own_f5 z112 z8 z21) = z195 then
    (1 : Int32)
  else
    (0 : Int32)
set_option maxRecDepth 65536 in
set_option maxHeartbeats 40000000 in
theorem rm0 (l : Launch) (Z : State) (a0 : Array Value) (hw : ∀ d ∈ tables_1, d.before a0 Z = true) (ws : List Jvm.Cond) (q0 : Int64) (q1 : Int64) (p2 : Int32) (p3 : Int32) (h0 : Heap) (n0 : Nat) (Z0 : n0 ≤ h0.size) :
    MetFree l x (head1 (Jvm.Cond.code x code maxLocals ret :: ws) room_1) (fun a U => a = #[(.long q0), (.long q1), (.int p2), (.int p3)] ∧ Z.Warmed39 U.vm ∧ U.heap = h0) (fun _ _ _ _ _ => True) (fun _ U o U' => ∃ v L, o = .returned v ∧ own_Ql (some (.int (own_f0 q0 q1 p2 p3))) n0 v U'.heap L ∧ FrameEnd U o U' L 8 64) := by
  refine MetFree.of_bodySF (plainFor_of_name pn_0) hisR ?_
  intro p e s m args below meth c s₁ Bd hml0 hP hK
  obtain ⟨rfl, hZ, hh⟩ := hP
  have hx := Bd.exec
  have hby := Bd.bytes
  have hml : c.maxLocals = 11 := hml0
  have hown : s.vm.findClass "com/example/kolektyv/kolektyv/records/BytesDigitsPinLaw" = some m.cls := findClass_of_methodNamed Bd.named
  have hnm := (name_of_methodNamed Bd.named Bd.method).1
  have X0 : Stand p l e room_1 s m #[(.long q0), (.long q1), (.int p2), (.int p3)] below meth c s₁ [] 0 0 := Stand.of_body Bd
  have e0 : s₁.heap = h0 := by rw [← hh, Bd.state]; rfl
  have N0 := Fr.nil n0
  refine own_enter (ef_0 m q0 q1 p2 p3) ?_
  show own_Goes p.tables e below (s₁.setTop (mkF m 0 #[.val (.long q0), .second, .val (.long q1), .second, .val (.int p2), .val (.int p3), .unset, .unset, .unset, .unset, .unset] [])) (own_P s (own_Ql (some (.int (own_f0 q0 q1 p2 p3))) n0) 8 64)
  refine own_step (fun _ => XS.iload X0.here hx rfl (hb hby at_0) rfl) ?_
  show own_Goes p.tables e below (s₁.setTop (mkF m 2 #[.val (.long q0), .second, .val (.long q1), .second, .val (.int p2), .val (.int p3), .unset, .unset, .unset, .unset, .unset] [(.int p2)])) _
  refine own_step (X0.ldcInt hx hown (mvT hZ (hw _ (List.mem_of_getElem? (i := 0) rfl))) (g := (mkF m 2 #[.val (.long q0), .second, .val (.long q1), .second, .val (.int p2), .val (.int p3), .unset, .unset, .unset, .unset, .unset] [(.int p2)])) rfl (hb hby at_2)) ?_
  show own_Goes p.tables e below (s₁.setTop (mkF m 4 #[.val (.long q0), .second, .val (.long q1), .second, .val (.int p2), .val (.int p3), .unset, .unset, .unset, .unset, .unset] [(.int (2147483647 : Int32)), (.int p2)])) _
  refine own_step (fun _ => XS.iand X0.here hx rfl (hb hby at_4) rfl) ?_
  show own_Goes p.tables e below (s₁.setTop (mkF m 5 #[.val (.long q0), .second, .val (.long q1), .second, .val (.int p2), .val (.int p3), .unset, .unset, .unset, .unset, .unset] [(.int (p2 &&& (2147483647 : Int32)))])) _
  refine own_step (fun _ => XS.bipush X0.here hx rfl (hb hby at_5)) ?_
  show own_Goes p.tables e below (s₁.setTop (mkF m 7 #[.val (.long q0), .second, .val (.long q1), .second, .val (.int p2), .val (.int p3), .unset, .unset, .unset, .unset, .unset] [(.int (9 : Int32)), (.int (p2 &&& (2147483647 : Int32)))])) _
  refine own_step (fun _ => XS.irem X0.here hx rfl (hb hby at_7) rfl (by decide)) ?_
  show own_Goes p.tables e below (s₁.setTop (mkF m 8 #[.val (.long q0), .second, .val (.long q1), .second, .val (.int p2), .val (.int p3), .unset, .unset, .unset, .unset, .unset] [(.int ((p2 &&& (2147483647 : Int32)) - (p2 &&& (2147483647 : Int32)) / (9 : Int32) * (9 : Int32)))])) _
  obtain ⟨z8, hz8⟩ : ∃ z : Int32, z = ((p2 &&& (2147483647 : Int32)) - (p2 &&& (2147483647 : Int32)) / (9 : Int32) * (9 : Int32)) := ⟨_, rfl⟩
  refine own_step (fun _ => XS.istore X0.here hx rfl (hb hby at_8) rfl (l' := #[.val (.long q0), .second, .val (.long q1), .second, .val (.int p2), .val (.int p3), .val (.int z8), .unset, .unset, .unset, .unset]) (by subst hz8; rfl)) ?_
  show own_Goes p.tables e below (s₁.setTop (mkF m 10 #[.val (.long q0), .second, .val (.long q1), .second, .val (.int p2), .val (.int p3), .val (.int z8), .unset, .unset, .unset, .unset] [])) _
  refine own_step (fun _ => XS.iload X0.here hx rfl (hb hby at_10) rfl) ?_
  show own_Goes p.tables e below (s₁.setTop (mkF m 12 #[.val (.long q0), .second, .val (.long q1), .second, .val (.int p2), .val (.int p3), .val (.int z8), .unset, .unset, .unset, .unset] [(.int p3)])) _
  refine own_step (X0.ldcInt hx hown (mvT hZ (hw _ (List.mem_of_getElem? (i := 0) rfl))) (g := (mkF m 12 #[.val (.long q0), .second, .val (.long q1), .second, .val (.int p2), .val (.int p3), .val (.int z8), .unset, .unset, .unset, .unset] [(.int p3)])) rfl (hb hby at_12)) ?_
  show own_Goes p.tables e below (s₁.setTop (mkF m 14 #[.val (.long q0), .second, .val (.long q1), .second, .val (.int p2), .val (.int p3), .val (.int z8), .unset, .unset, .unset, .unset] [(.int (2147483647 : Int32)), (.int p3)])) _
  refine own_step (fun _ => XS.iand X0.here hx rfl (hb hby at_14) rfl) ?_
  show own_Goes p.tables e below (s₁.setTop (mkF m 15 #[.val (.long q0), .second, .val (.long q1), .second, .val (.int p2), .val (.int p3), .val (.int z8), .unset, .unset, .unset, .unset] [(.int (p3 &&& (2147483647 : Int32)))])) _
  refine own_step (fun _ => XS.bipush X0.here hx rfl (hb hby at_15)) ?_
  show own_Goes p.tables e below (s₁.setTop (mkF m 17 #[.val (.long q0), .second, .val (.long q1), .second, .val (.int p2), .val (.int p3), .val (.int z8), .unset, .unset, .unset, .unset] [(.int (9 : Int32)), (.int (p3 &&& (2147483647 : Int32)))])) _
  refine own_step (fun _ => XS.iload X0.here hx rfl (hb hby at_17) rfl) ?_
  show own_Goes p.tables e below (s₁.setTop (mkF m 19 #[.val (.long q0), .second, .val (.long q1), .second, .val (.int p2), .val (.int p3), .val (.int z8), .unset, .unset, .unset, .unset] [(.int z8), (.int (9 : Int32)), (.int (p3 &&& (2147483647 : Int32)))])) _
  refine own_step (fun _ => XS.isub X0.here hx rfl (hb hby at_19) rfl) ?_
  show own_Goes p.tables e below (s₁.setTop (mkF m 20 #[.val (.long q0), .second, .val (.long q1), .second, .val (.int p2), .val (.int p3), .val (.int z8), .unset, .unset, .unset, .unset] [(.int ((9 : Int32) - z8)), (.int (p3 &&& (2147483647 : Int32)))])) _
  refine own_step (fun _ => XS.irem X0.here hx rfl (hb hby at_20) rfl (by subst hz8; exact own_nz (own_first p2))) ?_
  show own_Goes p.tables e below (s₁.setTop (mkF m 21 #[.val (.long q0), .second, .val (.long q1), .second, .val (.int p2), .val (.int p3), .val (.int z8), .unset, .unset, .unset, .unset] [(.int ((p3 &&& (2147483647 : Int32)) - (p3 &&& (2147483647 : Int32)) / ((9 : Int32) - z8) * ((9 : Int32) - z8)))])) _
  obtain ⟨z21, hz21⟩ : ∃ z : Int32, z = ((p3 &&& (2147483647 : Int32)) - (p3 &&& (2147483647 : Int32)) / ((9 : Int32) - z8) * ((9 : Int32) - z8)) := ⟨_, rfl⟩
  refine own_step (fun _ => XS.istore X0.here hx rfl (hb hby at_21) rfl (l' := #[.val (.long q0), .second, .val (.long q1), .second, .val (.int p2), .val (.int p3), .val (.int z8), .val (.int z21), .unset, .unset, .unset]) (by subst hz21; rfl)) ?_
  show own_Goes p.tables e below (s₁.setTop (mkF m 23 #[.val (.long q0), .second, .val (.long q1), .second, .val (.int p2), .val (.int p3), .val (.int z8), .val (.int z21), .unset, .unset, .unset] [])) _
  refine own_step (fun _ => XS.lloadN X0.here hx rfl (hb hby at_23) rfl) ?_
  show own_Goes p.tables e below (s₁.setTop (mkF m 24 #[.val (.long q0), .second, .val (.long q1), .second, .val (.int p2), .val (.int p3), .val (.int z8), .val (.int z21), .unset, .unset, .unset] [(.long q0)])) _
  refine own_step (fun _ => XS.lloadN X0.here hx rfl (hb hby at_24) rfl) ?_
  show own_Goes p.tables e below (s₁.setTop (mkF m 25 #[.val (.long q0), .second, .val (.long q1), .second, .val (.int p2), .val (.int p3), .val (.int z8), .val (.int z21), .unset, .unset, .unset] [(.long q1), (.long q0)])) _
  refine own_step (fun _ => XS.iconst X0.here hx rfl (hb hby at_25)) ?_
  show own_Goes p.tables e below (s₁.setTop (mkF m 26 #[.val (.long q0), .second, .val (.long q1), .second, .val (.int p2), .val (.int p3), .val (.int z8), .val (.int z21), .unset, .unset, .unset] [(.int (0 : Int32)), (.long q1), (.long q0)])) _
  refine own_step (fun _ => XS.iload X0.here hx rfl (hb hby at_26) rfl) ?_
  show own_Goes p.tables e below (s₁.setTop (mkF m 28 #[.val (.long q0), .second, .val (.long q1), .second, .val (.int p2), .val (.int p3), .val (.int z8), .val (.int z21), .unset, .unset, .unset] [(.int z8), (.int (0 : Int32)), (.long q1), (.long q0)])) _
  refine own_step (fun _ => XS.iload X0.here hx rfl (hb hby at_28) rfl) ?_
  show own_Goes p.tables e below (s₁.setTop (mkF m 30 #[.val (.long q0), .second, .val (.long q1), .second, .val (.int p2), .val (.int p3), .val (.int z8), .val (.int z21), .unset, .unset, .unset] [(.int z21), (.int z8), (.int (0 : Int32)), (.long q1), (.long q0)])) _
  obtain ⟨_, _, ⟨T1, L1, k1, n1⟩, -, X1, ⟨Lc1, hQ1, l1, y1, z1⟩, st1⟩ := Jvm.LawKit.callS X0 hx (y := (⟨"com/example/kolektyv/kolektyv/records/BytesDigitsPinLaw", "byteAt", "(JJIII)J"⟩ : MethodName)) hown (mvT hZ (hw _ (List.mem_of_getElem? (i := 1) rfl))) (mvT hZ (hw _ (List.mem_of_getElem? (i := 2) rfl))) (mvT hZ (hw _ (List.mem_of_getElem? (i := 3) rfl))) (mvT hZ (hw _ (List.mem_of_getElem? (i := 4) rfl))) (by decide) (backOf (W := 0) (rm1 l Z a0 hw [] q0 q1 (0 : Int32) z8 z21 h0 n0 Z0) hZ (hw _ (List.mem_of_getElem? (i := 4) rfl)) (hw _ (List.mem_of_getElem? (i := 3) rfl)) (by decide) (by decide)) (g := (mkF m 30 #[.val (.long q0), .second, .val (.long q1), .second, .val (.int p2), .val (.int p3), .val (.int z8), .val (.int z21), .unset, .unset, .unset] [(.int z21), (.int z8), (.int (0 : Int32)), (.long q1), (.long q0)])) rfl (by rw [hml]; rfl) (argsL := [(.long q0), (.long q1), (.int (0 : Int32)), (.int z8), (.int z21)]) (rest := []) (lenOf pd_0_0 rfl) rfl (by show 2 * 0 + _ ≤ _; exact Nat.le_of_eq rfl) (hb hby at_30) (fun _ _ => ⟨rfl, e0, (by decide : 0 + 0 ≤ _), (by decide : 0 + 0 ≤ _)⟩)
  dsimp only [Pt.U, Pt.locs, Pt.cells, Pt.slots] at X1 l1 y1 z1 st1 hQ1
  subst l1 y1 z1
  obtain ⟨rfl, rfl, e1⟩ := hQ1
  have X1 : Stand p l e room_1 s m #[(.long q0), (.long q1), (.int p2), (.int p3)] below meth c T1 [] 0 0 := own_flat X1
  refine own_step (st1) ?_
  show own_Goes p.tables e below (T1.setTop (mkF m 33 #[.val (.long q0), .second, .val (.long q1), .second, .val (.int p2), .val (.int p3), .val (.int z8), .val (.int z21), .unset, .unset, .unset] [(.long (own_f1 q0 q1 (0 : Int32) z8 z21))])) _
  refine own_step (fun _ => XS.lloadN X1.here hx rfl (hb hby at_33) rfl) ?_
  show own_Goes p.tables e below (T1.setTop (mkF m 34 #[.val (.long q0), .second, .val (.long q1), .second, .val (.int p2), .val (.int p3), .val (.int z8), .val (.int z21), .unset, .unset, .unset] [(.long q0), (.long (own_f1 q0 q1 (0 : Int32) z8 z21))])) _
  refine own_step (fun _ => XS.lloadN X1.here hx rfl (hb hby at_34) rfl) ?_
  show own_Goes p.tables e below (T1.setTop (mkF m 35 #[.val (.long q0), .second, .val (.long q1), .second, .val (.int p2), .val (.int p3), .val (.int z8), .val (.int z21), .unset, .unset, .unset] [(.long q1), (.long q0), (.long (own_f1 q0 q1 (0 : Int32) z8 z21))])) _
  refine own_step (fun _ => XS.iconst X1.here hx rfl (hb hby at_35)) ?_
  show own_Goes p.tables e below (T1.setTop (mkF m 36 #[.val (.long q0), .second, .val (.long q1), .second, .val (.int p2), .val (.int p3), .val (.int z8), .val (.int z21), .unset, .unset, .unset] [(.int (1 : Int32)), (.long q1), (.long q0), (.long (own_f1 q0 q1 (0 : Int32) z8 z21))])) _
  refine own_step (fun _ => XS.iload X1.here hx rfl (hb hby at_36) rfl) ?_
  show own_Goes p.tables e below (T1.setTop (mkF m 38 #[.val (.long q0), .second, .val (.long q1), .second, .val (.int p2), .val (.int p3), .val (.int z8), .val (.int z21), .unset, .unset, .unset] [(.int z8), (.int (1 : Int32)), (.long q1), (.long q0), (.long (own_f1 q0 q1 (0 : Int32) z8 z21))])) _
  refine own_step (fun _ => XS.iload X1.here hx rfl (hb hby at_38) rfl) ?_
  show own_Goes p.tables e below (T1.setTop (mkF m 40 #[.val (.long q0), .second, .val (.long q1), .second, .val (.int p2), .val (.int p3), .val (.int z8), .val (.int z21), .unset, .unset, .unset] [(.int z21), (.int z8), (.int (1 : Int32)), (.long q1), (.long q0), (.long (own_f1 q0 q1 (0 : Int32) z8 z21))])) _
  obtain ⟨_, _, ⟨T2, L2, k2, n2⟩, -, X2, ⟨Lc2, hQ2, l2, y2, z2⟩, st2⟩ := Jvm.LawKit.callS X1 hx (y := (⟨"com/example/kolektyv/kolektyv/records/BytesDigitsPinLaw", "byteAt", "(JJIII)J"⟩ : MethodName)) hown (mvT hZ (hw _ (List.mem_of_getElem? (i := 1) rfl))) (mvT hZ (hw _ (List.mem_of_getElem? (i := 2) rfl))) (mvT hZ (hw _ (List.mem_of_getElem? (i := 3) rfl))) (mvT hZ (hw _ (List.mem_of_getElem? (i := 4) rfl))) (by decide) (backOf (W := 2) (rm1 l Z a0 hw [] q0 q1 (1 : Int32) z8 z21 h0 n0 Z0) hZ (hw _ (List.mem_of_getElem? (i := 4) rfl)) (hw _ (List.mem_of_getElem? (i := 3) rfl)) (by decide) (by decide)) (g := (mkF m 40 #[.val (.long q0), .second, .val (.long q1), .second, .val (.int p2), .val (.int p3), .val (.int z8), .val (.int z21), .unset, .unset, .unset] [(.int z21), (.int z8), (.int (1 : Int32)), (.long q1), (.long q0), (.long (own_f1 q0 q1 (0 : Int32) z8 z21))])) rfl (by rw [hml]; rfl) (argsL := [(.long q0), (.long q1), (.int (1 : Int32)), (.int z8), (.int z21)]) (rest := [(.long (own_f1 q0 q1 (0 : Int32) z8 z21))]) (lenOf pd_0_0 rfl) rfl (by show 2 * 0 + _ ≤ _; exact Nat.le_of_eq rfl) (hb hby at_40) (fun _ _ => ⟨rfl, e1, (by decide : 0 + 0 ≤ _), (by decide : 0 + 0 ≤ _)⟩)
  dsimp only [Pt.U, Pt.locs, Pt.cells, Pt.slots] at X2 l2 y2 z2 st2 hQ2
  subst l2 y2 z2
  obtain ⟨rfl, rfl, e2⟩ := hQ2
  have X2 : Stand p l e room_1 s m #[(.long q0), (.long q1), (.int p2), (.int p3)] below meth c T2 [] 0 0 := own_flat X2
  refine own_step (st2) ?_
  show own_Goes p.tables e below (T2.setTop (mkF m 43 #[.val (.long q0), .second, .val (.long q1), .second, .val (.int p2), .val (.int p3), .val (.int z8), .val (.int z21), .unset, .unset, .unset] [(.long (own_f1 q0 q1 (1 : Int32) z8 z21)), (.long (own_f1 q0 q1 (0 : Int32) z8 z21))])) _
  refine own_step (fun _ => XS.lor X2.here hx rfl (hb hby at_43) rfl) ?_
  show own_Goes p.tables e below (T2.setTop (mkF m 44 #[.val (.long q0), .second, .val (.long q1), .second, .val (.int p2), .val (.int p3), .val (.int z8), .val (.int z21), .unset, .unset, .unset] [(.long ((own_f1 q0 q1 (0 : Int32) z8 z21) ||| (own_f1 q0 q1 (1 : Int32) z8 z21)))])) _
  refine own_step (fun _ => XS.lloadN X2.here hx rfl (hb hby at_44) rfl) ?_
  show own_Goes p.tables e below (T2.setTop (mkF m 45 #[.val (.long q0), .second, .val (.long q1), .second, .val (.int p2), .val (.int p3), .val (.int z8), .val (.int z21), .unset, .unset, .unset] [(.long q0), (.long ((own_f1 q0 q1 (0 : Int32) z8 z21) ||| (own_f1 q0 q1 (1 : Int32) z8 z21)))])) _
  refine own_step (fun _ => XS.lloadN X2.here hx rfl (hb hby at_45) rfl) ?_
  show own_Goes p.tables e below (T2.setTop (mkF m 46 #[.val (.long q0), .second, .val (.long q1), .second, .val (.int p2), .val (.int p3), .val (.int z8), .val (.int z21), .unset, .unset, .unset] [(.long q1), (.long q0), (.long ((own_f1 q0 q1 (0 : Int32) z8 z21) ||| (own_f1 q0 q1 (1 : Int32) z8 z21)))])) _
  refine own_step (fun _ => XS.iconst X2.here hx rfl (hb hby at_46)) ?_
  show own_Goes p.tables e below (T2.setTop (mkF m 47 #[.val (.long q0), .second, .val (.long q1), .second, .val (.int p2), .val (.int p3), .val (.int z8), .val (.int z21), .unset, .unset, .unset] [(.int (2 : Int32)), (.long q1), (.long q0), (.long ((own_f1 q0 q1 (0 : Int32) z8 z21) ||| (own_f1 q0 q1 (1 : Int32) z8 z21)))])) _
  refine own_step (fun _ => XS.iload X2.here hx rfl (hb hby at_47) rfl) ?_
  show own_Goes p.tables e below (T2.setTop (mkF m 49 #[.val (.long q0), .second, .val (.long q1), .second, .val (.int p2), .val (.int p3), .val (.int z8), .val (.int z21), .unset, .unset, .unset] [(.int z8), (.int (2 : Int32)), (.long q1), (.long q0), (.long ((own_f1 q0 q1 (0 : Int32) z8 z21) ||| (own_f1 q0 q1 (1 : Int32) z8 z21)))])) _
  refine own_step (fun _ => XS.iload X2.here hx rfl (hb hby at_49) rfl) ?_
  show own_Goes p.tables e below (T2.setTop (mkF m 51 #[.val (.long q0), .second, .val (.long q1), .second, .val (.int p2), .val (.int p3), .val (.int z8), .val (.int z21), .unset, .unset, .unset] [(.int z21), (.int z8), (.int (2 : Int32)), (.long q1), (.long q0), (.long ((own_f1 q0 q1 (0 : Int32) z8 z21) ||| (own_f1 q0 q1 (1 : Int32) z8 z21)))])) _
  obtain ⟨_, _, ⟨T3, L3, k3, n3⟩, -, X3, ⟨Lc3, hQ3, l3, y3, z3⟩, st3⟩ := Jvm.LawKit.callS X2 hx (y := (⟨"com/example/kolektyv/kolektyv/records/BytesDigitsPinLaw", "byteAt", "(JJIII)J"⟩ : MethodName)) hown (mvT hZ (hw _ (List.mem_of_getElem? (i := 1) rfl))) (mvT hZ (hw _ (List.mem_of_getElem? (i := 2) rfl))) (mvT hZ (hw _ (List.mem_of_getElem? (i := 3) rfl))) (mvT hZ (hw _ (List.mem_of_getElem? (i := 4) rfl))) (by decide) (backOf (W := 2) (rm1 l Z a0 hw [] q0 q1 (2 : Int32) z8 z21 h0 n0 Z0) hZ (hw _ (List.mem_of_getElem? (i := 4) rfl)) (hw _ (List.mem_of_getElem? (i := 3) rfl)) (by decide) (by decide)) (g := (mkF m 51 #[.val (.long q0), .second, .val (.long q1), .second, .val (.int p2), .val (.int p3), .val (.int z8), .val (.int z21), .unset, .unset, .unset] [(.int z21), (.int z8), (.int (2 : Int32)), (.long q1), (.long q0), (.long ((own_f1 q0 q1 (0 : Int32) z8 z21) ||| (own_f1 q0 q1 (1 : Int32) z8 z21)))])) rfl (by rw [hml]; rfl) (argsL := [(.long q0), (.long q1), (.int (2 : Int32)), (.int z8), (.int z21)]) (rest := [(.long ((own_f1 q0 q1 (0 : Int32) z8 z21) ||| (own_f1 q0 q1 (1 : Int32) z8 z21)))]) (lenOf pd_0_0 rfl) rfl (by show 2 * 0 + _ ≤ _; exact Nat.le_of_eq rfl) (hb hby at_51) (fun _ _ => ⟨rfl, e2, (by decide : 0 + 0 ≤ _), (by decide : 0 + 0 ≤ _)⟩)
  dsimp only [Pt.U, Pt.locs, Pt.cells, Pt.slots] at X3 l3 y3 z3 st3 hQ3
  subst l3 y3 z3
  obtain ⟨rfl, rfl, e3⟩ := hQ3
  have X3 : Stand p l e room_1 s m #[(.long q0), (.long q1), (.int p2), (.int p3)] below meth c T3 [] 0 0 := own_flat X3
  refine own_step (st3) ?_
  show own_Goes p.tables e below (T3.setTop (mkF m 54 #[.val (.long q0), .second, .val (.long q1), .second, .val (.int p2), .val (.int p3), .val (.int z8), .val (.int z21), .unset, .unset, .unset] [(.long (own_f1 q0 q1 (2 : Int32) z8 z21)), (.long ((own_f1 q0 q1 (0 : Int32) z8 z21) ||| (own_f1 q0 q1 (1 : Int32) z8 z21)))])) _
  refine own_step (fun _ => XS.lor X3.here hx rfl (hb hby at_54) rfl) ?_
  show own_Goes p.tables e below (T3.setTop (mkF m 55 #[.val (.long q0), .second, .val (.long q1), .second, .val (.int p2), .val (.int p3), .val (.int z8), .val (.int z21), .unset, .unset, .unset] [(.long (((own_f1 q0 q1 (0 : Int32) z8 z21) ||| (own_f1 q0 q1 (1 : Int32) z8 z21)) ||| (own_f1 q0 q1 (2 : Int32) z8 z21)))])) _
  refine own_step (fun _ => XS.lloadN X3.here hx rfl (hb hby at_55) rfl) ?_
  show own_Goes p.tables e below (T3.setTop (mkF m 56 #[.val (.long q0), .second, .val (.long q1), .second, .val (.int p2), .val (.int p3), .val (.int z8), .val (.int z21), .unset, .unset, .unset] [(.long q0), (.long (((own_f1 q0 q1 (0 : Int32) z8 z21) ||| (own_f1 q0 q1 (1 : Int32) z8 z21)) ||| (own_f1 q0 q1 (2 : Int32) z8 z21)))])) _
  refine own_step (fun _ => XS.lloadN X3.here hx rfl (hb hby at_56) rfl) ?_
  show own_Goes p.tables e below (T3.setTop (mkF m 57 #[.val (.long q0), .second, .val (.long q1), .second, .val (.int p2), .val (.int p3), .val (.int z8), .val (.int z21), .unset, .unset, .unset] [(.long q1), (.long q0), (.long (((own_f1 q0 q1 (0 : Int32) z8 z21) ||| (own_f1 q0 q1 (1 : Int32) z8 z21)) ||| (own_f1 q0 q1 (2 : Int32) z8 z21)))])) _
  refine own_step (fun _ => XS.iconst X3.here hx rfl (hb hby at_57)) ?_
  show own_Goes p.tables e below (T3.setTop (mkF m 58 #[.val (.long q0), .second, .val (.long q1), .second, .val (.int p2), .val (.int p3), .val (.int z8), .val (.int z21), .unset, .unset, .unset] [(.int (3 : Int32)), (.long q1), (.long q0), (.long (((own_f1 q0 q1 (0 : Int32) z8 z21) ||| (own_f1 q0 q1 (1 : Int32) z8 z21)) ||| (own_f1 q0 q1 (2 : Int32) z8 z21)))])) _
  refine own_step (fun _ => XS.iload X3.here hx rfl (hb hby at_58) rfl) ?_
  show own_Goes p.tables e below (T3.setTop (mkF m 60 #[.val (.long q0), .second, .val (.long q1), .second, .val (.int p2), .val (.int p3), .val (.int z8), .val (.int z21), .unset, .unset, .unset] [(.int z8), (.int (3 : Int32)), (.long q1), (.long q0), (.long (((own_f1 q0 q1 (0 : Int32) z8 z21) ||| (own_f1 q0 q1 (1 : Int32) z8 z21)) ||| (own_f1 q0 q1 (2 : Int32) z8 z21)))])) _
  refine own_step (fun _ => XS.iload X3.here hx rfl (hb hby at_60) rfl) ?_
  show own_Goes p.tables e below (T3.setTop (mkF m 62 #[.val (.long q0), .second, .val (.long q1), .second, .val (.int p2), .val (.int p3), .val (.int z8), .val (.int z21), .unset, .unset, .unset] [(.int z21), (.int z8), (.int (3 : Int32)), (.long q1), (.long q0), (.long (((own_f1 q0 q1 (0 : Int32) z8 z21) ||| (own_f1 q0 q1 (1 : Int32) z8 z21)) ||| (own_f1 q0 q1 (2 : Int32) z8 z21)))])) _
  obtain ⟨_, _, ⟨T4, L4, k4, n4⟩, -, X4, ⟨Lc4, hQ4, l4, y4, z4⟩, st4⟩ := Jvm.LawKit.callS X3 hx (y := (⟨"com/example/kolektyv/kolektyv/records/BytesDigitsPinLaw", "byteAt", "(JJIII)J"⟩ : MethodName)) hown (mvT hZ (hw _ (List.mem_of_getElem? (i := 1) rfl))) (mvT hZ (hw _ (List.mem_of_getElem? (i := 2) rfl))) (mvT hZ (hw _ (List.mem_of_getElem? (i := 3) rfl))) (mvT hZ (hw _ (List.mem_of_getElem? (i := 4) rfl))) (by decide) (backOf (W := 2) (rm1 l Z a0 hw [] q0 q1 (3 : Int32) z8 z21 h0 n0 Z0) hZ (hw _ (List.mem_of_getElem? (i := 4) rfl)) (hw _ (List.mem_of_getElem? (i := 3) rfl)) (by decide) (by decide)) (g := (mkF m 62 #[.val (.long q0), .second, .val (.long q1), .second, .val (.int p2), .val (.int p3), .val (.int z8), .val (.int z21), .unset, .unset, .unset] [(.int z21), (.int z8), (.int (3 : Int32)), (.long q1), (.long q0), (.long (((own_f1 q0 q1 (0 : Int32) z8 z21) ||| (own_f1 q0 q1 (1 : Int32) z8 z21)) ||| (own_f1 q0 q1 (2 : Int32) z8 z21)))])) rfl (by rw [hml]; rfl) (argsL := [(.long q0), (.long q1), (.int (3 : Int32)), (.int z8), (.int z21)]) (rest := [(.long (((own_f1 q0 q1 (0 : Int32) z8 z21) ||| (own_f1 q0 q1 (1 : Int32) z8 z21)) ||| (own_f1 q0 q1 (2 : Int32) z8 z21)))]) (lenOf pd_0_0 rfl) rfl (by show 2 * 0 + _ ≤ _; exact Nat.le_of_eq rfl) (hb hby at_62) (fun _ _ => ⟨rfl, e3, (by decide : 0 + 0 ≤ _), (by decide : 0 + 0 ≤ _)⟩)
  dsimp only [Pt.U, Pt.locs, Pt.cells, Pt.slots] at X4 l4 y4 z4 st4 hQ4
  subst l4 y4 z4
  obtain ⟨rfl, rfl, e4⟩ := hQ4
  have X4 : Stand p l e room_1 s m #[(.long q0), (.long q1), (.int p2), (.int p3)] below meth c T4 [] 0 0 := own_flat X4
  refine own_step (st4) ?_
  show own_Goes p.tables e below (T4.setTop (mkF m 65 #[.val (.long q0), .second, .val (.long q1), .second, .val (.int p2), .val (.int p3), .val (.int z8), .val (.int z21), .unset, .unset, .unset] [(.long (own_f1 q0 q1 (3 : Int32) z8 z21)), (.long (((own_f1 q0 q1 (0 : Int32) z8 z21) ||| (own_f1 q0 q1 (1 : Int32) z8 z21)) ||| (own_f1 q0 q1 (2 : Int32) z8 z21)))])) _
  refine own_step (fun _ => XS.lor X4.here hx rfl (hb hby at_65) rfl) ?_
  show own_Goes p.tables e below (T4.setTop (mkF m 66 #[.val (.long q0), .second, .val (.long q1), .second, .val (.int p2), .val (.int p3), .val (.int z8), .val (.int z21), .unset, .unset, .unset] [(.long ((((own_f1 q0 q1 (0 : Int32) z8 z21) ||| (own_f1 q0 q1 (1 : Int32) z8 z21)) ||| (own_f1 q0 q1 (2 : Int32) z8 z21)) ||| (own_f1 q0 q1 (3 : Int32) z8 z21)))])) _
  refine own_step (fun _ => XS.lloadN X4.here hx rfl (hb hby at_66) rfl) ?_
  show own_Goes p.tables e below (T4.setTop (mkF m 67 #[.val (.long q0), .second, .val (.long q1), .second, .val (.int p2), .val (.int p3), .val (.int z8), .val (.int z21), .unset, .unset, .unset] [(.long q0), (.long ((((own_f1 q0 q1 (0 : Int32) z8 z21) ||| (own_f1 q0 q1 (1 : Int32) z8 z21)) ||| (own_f1 q0 q1 (2 : Int32) z8 z21)) ||| (own_f1 q0 q1 (3 : Int32) z8 z21)))])) _
  refine own_step (fun _ => XS.lloadN X4.here hx rfl (hb hby at_67) rfl) ?_
  show own_Goes p.tables e below (T4.setTop (mkF m 68 #[.val (.long q0), .second, .val (.long q1), .second, .val (.int p2), .val (.int p3), .val (.int z8), .val (.int z21), .unset, .unset, .unset] [(.long q1), (.long q0), (.long ((((own_f1 q0 q1 (0 : Int32) z8 z21) ||| (own_f1 q0 q1 (1 : Int32) z8 z21)) ||| (own_f1 q0 q1 (2 : Int32) z8 z21)) ||| (own_f1 q0 q1 (3 : Int32) z8 z21)))])) _
  refine own_step (fun _ => XS.iconst X4.here hx rfl (hb hby at_68)) ?_
  show own_Goes p.tables e below (T4.setTop (mkF m 69 #[.val (.long q0), .second, .val (.long q1), .second, .val (.int p2), .val (.int p3), .val (.int z8), .val (.int z21), .unset, .unset, .unset] [(.int (4 : Int32)), (.long q1), (.long q0), (.long ((((own_f1 q0 q1 (0 : Int32) z8 z21) ||| (own_f1 q0 q1 (1 : Int32) z8 z21)) ||| (own_f1 q0 q1 (2 : Int32) z8 z21)) ||| (own_f1 q0 q1 (3 : Int32) z8 z21)))])) _
  refine own_step (fun _ => XS.iload X4.here hx rfl (hb hby at_69) rfl) ?_
  show own_Goes p.tables e below (T4.setTop (mkF m 71 #[.val (.long q0), .second, .val (.long q1), .second, .val (.int p2), .val (.int p3), .val (.int z8), .val (.int z21), .unset, .unset, .unset] [(.int z8), (.int (4 : Int32)), (.long q1), (.long q0), (.long ((((own_f1 q0 q1 (0 : Int32) z8 z21) ||| (own_f1 q0 q1 (1 : Int32) z8 z21)) ||| (own_f1 q0 q1 (2 : Int32) z8 z21)) ||| (own_f1 q0 q1 (3 : Int32) z8 z21)))])) _
  refine own_step (fun _ => XS.iload X4.here hx rfl (hb hby at_71) rfl) ?_
  show own_Goes p.tables e below (T4.setTop (mkF m 73 #[.val (.long q0), .second, .val (.long q1), .second, .val (.int p2), .val (.int p3), .val (.int z8), .val (.int z21), .unset, .unset, .unset] [(.int z21), (.int z8), (.int (4 : Int32)), (.long q1), (.long q0), (.long ((((own_f1 q0 q1 (0 : Int32) z8 z21) ||| (own_f1 q0 q1 (1 : Int32) z8 z21)) ||| (own_f1 q0 q1 (2 : Int32) z8 z21)) ||| (own_f1 q0 q1 (3 : Int32) z8 z21)))])) _
  obtain ⟨_, _, ⟨T5, L5, k5, n5⟩, -, X5, ⟨Lc5, hQ5, l5, y5, z5⟩, st5⟩ := Jvm.LawKit.callS X4 hx (y := (⟨"com/example/kolektyv/kolektyv/records/BytesDigitsPinLaw", "byteAt", "(JJIII)J"⟩ : MethodName)) hown (mvT hZ (hw _ (List.mem_of_getElem? (i := 1) rfl))) (mvT hZ (hw _ (List.mem_of_getElem? (i := 2) rfl))) (mvT hZ (hw _ (List.mem_of_getElem? (i := 3) rfl))) (mvT hZ (hw _ (List.mem_of_getElem? (i := 4) rfl))) (by decide) (backOf (W := 2) (rm1 l Z a0 hw [] q0 q1 (4 : Int32) z8 z21 h0 n0 Z0) hZ (hw _ (List.mem_of_getElem? (i := 4) rfl)) (hw _ (List.mem_of_getElem? (i := 3) rfl)) (by decide) (by decide)) (g := (mkF m 73 #[.val (.long q0), .second, .val (.long q1), .second, .val (.int p2), .val (.int p3), .val (.int z8), .val (.int z21), .unset, .unset, .unset] [(.int z21), (.int z8), (.int (4 : Int32)), (.long q1), (.long q0), (.long ((((own_f1 q0 q1 (0 : Int32) z8 z21) ||| (own_f1 q0 q1 (1 : Int32) z8 z21)) ||| (own_f1 q0 q1 (2 : Int32) z8 z21)) ||| (own_f1 q0 q1 (3 : Int32) z8 z21)))])) rfl (by rw [hml]; rfl) (argsL := [(.long q0), (.long q1), (.int (4 : Int32)), (.int z8), (.int z21)]) (rest := [(.long ((((own_f1 q0 q1 (0 : Int32) z8 z21) ||| (own_f1 q0 q1 (1 : Int32) z8 z21)) ||| (own_f1 q0 q1 (2 : Int32) z8 z21)) ||| (own_f1 q0 q1 (3 : Int32) z8 z21)))]) (lenOf pd_0_0 rfl) rfl (by show 2 * 0 + _ ≤ _; exact Nat.le_of_eq rfl) (hb hby at_73) (fun _ _ => ⟨rfl, e4, (by decide : 0 + 0 ≤ _), (by decide : 0 + 0 ≤ _)⟩)
  dsimp only [Pt.U, Pt.locs, Pt.cells, Pt.slots] at X5 l5 y5 z5 st5 hQ5
  subst l5 y5 z5
  obtain ⟨rfl, rfl, e5⟩ := hQ5
  have X5 : Stand p l e room_1 s m #[(.long q0), (.long q1), (.int p2), (.int p3)] below meth c T5 [] 0 0 := own_flat X5
  refine own_step (st5) ?_
  show own_Goes p.tables e below (T5.setTop (mkF m 76 #[.val (.long q0), .second, .val (.long q1), .second, .val (.int p2), .val (.int p3), .val (.int z8), .val (.int z21), .unset, .unset, .unset] [(.long (own_f1 q0 q1 (4 : Int32) z8 z21)), (.long ((((own_f1 q0 q1 (0 : Int32) z8 z21) ||| (own_f1 q0 q1 (1 : Int32) z8 z21)) ||| (own_f1 q0 q1 (2 : Int32) z8 z21)) ||| (own_f1 q0 q1 (3 : Int32) z8 z21)))])) _
  refine own_step (fun _ => XS.lor X5.here hx rfl (hb hby at_76) rfl) ?_
  show own_Goes p.tables e below (T5.setTop (mkF m 77 #[.val (.long q0), .second, .val (.long q1), .second, .val (.int p2), .val (.int p3), .val (.int z8), .val (.int z21), .unset, .unset, .unset] [(.long (((((own_f1 q0 q1 (0 : Int32) z8 z21) ||| (own_f1 q0 q1 (1 : Int32) z8 z21)) ||| (own_f1 q0 q1 (2 : Int32) z8 z21)) ||| (own_f1 q0 q1 (3 : Int32) z8 z21)) ||| (own_f1 q0 q1 (4 : Int32) z8 z21)))])) _
  refine own_step (fun _ => XS.lloadN X5.here hx rfl (hb hby at_77) rfl) ?_
  show own_Goes p.tables e below (T5.setTop (mkF m 78 #[.val (.long q0), .second, .val (.long q1), .second, .val (.int p2), .val (.int p3), .val (.int z8), .val (.int z21), .unset, .unset, .unset] [(.long q0), (.long (((((own_f1 q0 q1 (0 : Int32) z8 z21) ||| (own_f1 q0 q1 (1 : Int32) z8 z21)) ||| (own_f1 q0 q1 (2 : Int32) z8 z21)) ||| (own_f1 q0 q1 (3 : Int32) z8 z21)) ||| (own_f1 q0 q1 (4 : Int32) z8 z21)))])) _
  refine own_step (fun _ => XS.lloadN X5.here hx rfl (hb hby at_78) rfl) ?_
  show own_Goes p.tables e below (T5.setTop (mkF m 79 #[.val (.long q0), .second, .val (.long q1), .second, .val (.int p2), .val (.int p3), .val (.int z8), .val (.int z21), .unset, .unset, .unset] [(.long q1), (.long q0), (.long (((((own_f1 q0 q1 (0 : Int32) z8 z21) ||| (own_f1 q0 q1 (1 : Int32) z8 z21)) ||| (own_f1 q0 q1 (2 : Int32) z8 z21)) ||| (own_f1 q0 q1 (3 : Int32) z8 z21)) ||| (own_f1 q0 q1 (4 : Int32) z8 z21)))])) _
  refine own_step (fun _ => XS.iconst X5.here hx rfl (hb hby at_79)) ?_
  show own_Goes p.tables e below (T5.setTop (mkF m 80 #[.val (.long q0), .second, .val (.long q1), .second, .val (.int p2), .val (.int p3), .val (.int z8), .val (.int z21), .unset, .unset, .unset] [(.int (5 : Int32)), (.long q1), (.long q0), (.long (((((own_f1 q0 q1 (0 : Int32) z8 z21) ||| (own_f1 q0 q1 (1 : Int32) z8 z21)) ||| (own_f1 q0 q1 (2 : Int32) z8 z21)) ||| (own_f1 q0 q1 (3 : Int32) z8 z21)) ||| (own_f1 q0 q1 (4 : Int32) z8 z21)))])) _
  refine own_step (fun _ => XS.iload X5.here hx rfl (hb hby at_80) rfl) ?_
  show own_Goes p.tables e below (T5.setTop (mkF m 82 #[.val (.long q0), .second, .val (.long q1), .second, .val (.int p2), .val (.int p3), .val (.int z8), .val (.int z21), .unset, .unset, .unset] [(.int z8), (.int (5 : Int32)), (.long q1), (.long q0), (.long (((((own_f1 q0 q1 (0 : Int32) z8 z21) ||| (own_f1 q0 q1 (1 : Int32) z8 z21)) ||| (own_f1 q0 q1 (2 : Int32) z8 z21)) ||| (own_f1 q0 q1 (3 : Int32) z8 z21)) ||| (own_f1 q0 q1 (4 : Int32) z8 z21)))])) _
  refine own_step (fun _ => XS.iload X5.here hx rfl (hb hby at_82) rfl) ?_
  show own_Goes p.tables e below (T5.setTop (mkF m 84 #[.val (.long q0), .second, .val (.long q1), .second, .val (.int p2), .val (.int p3), .val (.int z8), .val (.int z21), .unset, .unset, .unset] [(.int z21), (.int z8), (.int (5 : Int32)), (.long q1), (.long q0), (.long (((((own_f1 q0 q1 (0 : Int32) z8 z21) ||| (own_f1 q0 q1 (1 : Int32) z8 z21)) ||| (own_f1 q0 q1 (2 : Int32) z8 z21)) ||| (own_f1 q0 q1 (3 : Int32) z8 z21)) ||| (own_f1 q0 q1 (4 : Int32) z8 z21)))])) _
  obtain ⟨_, _, ⟨T6, L6, k6, n6⟩, -, X6, ⟨Lc6, hQ6, l6, y6, z6⟩, st6⟩ := Jvm.LawKit.callS X5 hx (y := (⟨"com/example/kolektyv/kolektyv/records/BytesDigitsPinLaw", "byteAt", "(JJIII)J"⟩ : MethodName)) hown (mvT hZ (hw _ (List.mem_of_getElem? (i := 1) rfl))) (mvT hZ (hw _ (List.mem_of_getElem? (i := 2) rfl))) (mvT hZ (hw _ (List.mem_of_getElem? (i := 3) rfl))) (mvT hZ (hw _ (List.mem_of_getElem? (i := 4) rfl))) (by decide) (backOf (W := 2) (rm1 l Z a0 hw [] q0 q1 (5 : Int32) z8 z21 h0 n0 Z0) hZ (hw _ (List.mem_of_getElem? (i := 4) rfl)) (hw _ (List.mem_of_getElem? (i := 3) rfl)) (by decide) (by decide)) (g := (mkF m 84 #[.val (.long q0), .second, .val (.long q1), .second, .val (.int p2), .val (.int p3), .val (.int z8), .val (.int z21), .unset, .unset, .unset] [(.int z21), (.int z8), (.int (5 : Int32)), (.long q1), (.long q0), (.long (((((own_f1 q0 q1 (0 : Int32) z8 z21) ||| (own_f1 q0 q1 (1 : Int32) z8 z21)) ||| (own_f1 q0 q1 (2 : Int32) z8 z21)) ||| (own_f1 q0 q1 (3 : Int32) z8 z21)) ||| (own_f1 q0 q1 (4 : Int32) z8 z21)))])) rfl (by rw [hml]; rfl) (argsL := [(.long q0), (.long q1), (.int (5 : Int32)), (.int z8), (.int z21)]) (rest := [(.long (((((own_f1 q0 q1 (0 : Int32) z8 z21) ||| (own_f1 q0 q1 (1 : Int32) z8 z21)) ||| (own_f1 q0 q1 (2 : Int32) z8 z21)) ||| (own_f1 q0 q1 (3 : Int32) z8 z21)) ||| (own_f1 q0 q1 (4 : Int32) z8 z21)))]) (lenOf pd_0_0 rfl) rfl (by show 2 * 0 + _ ≤ _; exact Nat.le_of_eq rfl) (hb hby at_84) (fun _ _ => ⟨rfl, e5, (by decide : 0 + 0 ≤ _), (by decide : 0 + 0 ≤ _)⟩)
  dsimp only [Pt.U, Pt.locs, Pt.cells, Pt.slots] at X6 l6 y6 z6 st6 hQ6
  subst l6 y6 z6
  obtain ⟨rfl, rfl, e6⟩ := hQ6
  have X6 : Stand p l e room_1 s m #[(.long q0), (.long q1), (.int p2), (.int p3)] below meth c T6 [] 0 0 := own_flat X6
  refine own_step (st6) ?_
  show own_Goes p.tables e below (T6.setTop (mkF m 87 #[.val (.long q0), .second, .val (.long q1), .second, .val (.int p2), .val (.int p3), .val (.int z8), .val (.int z21), .unset, .unset, .unset] [(.long (own_f1 q0 q1 (5 : Int32) z8 z21)), (.long (((((own_f1 q0 q1 (0 : Int32) z8 z21) ||| (own_f1 q0 q1 (1 : Int32) z8 z21)) ||| (own_f1 q0 q1 (2 : Int32) z8 z21)) ||| (own_f1 q0 q1 (3 : Int32) z8 z21)) ||| (own_f1 q0 q1 (4 : Int32) z8 z21)))])) _
  refine own_step (fun _ => XS.lor X6.here hx rfl (hb hby at_87) rfl) ?_
  show own_Goes p.tables e below (T6.setTop (mkF m 88 #[.val (.long q0), .second, .val (.long q1), .second, .val (.int p2), .val (.int p3), .val (.int z8), .val (.int z21), .unset, .unset, .unset] [(.long ((((((own_f1 q0 q1 (0 : Int32) z8 z21) ||| (own_f1 q0 q1 (1 : Int32) z8 z21)) ||| (own_f1 q0 q1 (2 : Int32) z8 z21)) ||| (own_f1 q0 q1 (3 : Int32) z8 z21)) ||| (own_f1 q0 q1 (4 : Int32) z8 z21)) ||| (own_f1 q0 q1 (5 : Int32) z8 z21)))])) _
  refine own_step (fun _ => XS.lloadN X6.here hx rfl (hb hby at_88) rfl) ?_
  show own_Goes p.tables e below (T6.setTop (mkF m 89 #[.val (.long q0), .second, .val (.long q1), .second, .val (.int p2), .val (.int p3), .val (.int z8), .val (.int z21), .unset, .unset, .unset] [(.long q0), (.long ((((((own_f1 q0 q1 (0 : Int32) z8 z21) ||| (own_f1 q0 q1 (1 : Int32) z8 z21)) ||| (own_f1 q0 q1 (2 : Int32) z8 z21)) ||| (own_f1 q0 q1 (3 : Int32) z8 z21)) ||| (own_f1 q0 q1 (4 : Int32) z8 z21)) ||| (own_f1 q0 q1 (5 : Int32) z8 z21)))])) _
  refine own_step (fun _ => XS.lloadN X6.here hx rfl (hb hby at_89) rfl) ?_
  show own_Goes p.tables e below (T6.setTop (mkF m 90 #[.val (.long q0), .second, .val (.long q1), .second, .val (.int p2), .val (.int p3), .val (.int z8), .val (.int z21), .unset, .unset, .unset] [(.long q1), (.long q0), (.long ((((((own_f1 q0 q1 (0 : Int32) z8 z21) ||| (own_f1 q0 q1 (1 : Int32) z8 z21)) ||| (own_f1 q0 q1 (2 : Int32) z8 z21)) ||| (own_f1 q0 q1 (3 : Int32) z8 z21)) ||| (own_f1 q0 q1 (4 : Int32) z8 z21)) ||| (own_f1 q0 q1 (5 : Int32) z8 z21)))])) _
  refine own_step (fun _ => XS.bipush X6.here hx rfl (hb hby at_90)) ?_
  show own_Goes p.tables e below (T6.setTop (mkF m 92 #[.val (.long q0), .second, .val (.long q1), .second, .val (.int p2), .val (.int p3), .val (.int z8), .val (.int z21), .unset, .unset, .unset] [(.int (6 : Int32)), (.long q1), (.long q0), (.long ((((((own_f1 q0 q1 (0 : Int32) z8 z21) ||| (own_f1 q0 q1 (1 : Int32) z8 z21)) ||| (own_f1 q0 q1 (2 : Int32) z8 z21)) ||| (own_f1 q0 q1 (3 : Int32) z8 z21)) ||| (own_f1 q0 q1 (4 : Int32) z8 z21)) ||| (own_f1 q0 q1 (5 : Int32) z8 z21)))])) _
  refine own_step (fun _ => XS.iload X6.here hx rfl (hb hby at_92) rfl) ?_
  show own_Goes p.tables e below (T6.setTop (mkF m 94 #[.val (.long q0), .second, .val (.long q1), .second, .val (.int p2), .val (.int p3), .val (.int z8), .val (.int z21), .unset, .unset, .unset] [(.int z8), (.int (6 : Int32)), (.long q1), (.long q0), (.long ((((((own_f1 q0 q1 (0 : Int32) z8 z21) ||| (own_f1 q0 q1 (1 : Int32) z8 z21)) ||| (own_f1 q0 q1 (2 : Int32) z8 z21)) ||| (own_f1 q0 q1 (3 : Int32) z8 z21)) ||| (own_f1 q0 q1 (4 : Int32) z8 z21)) ||| (own_f1 q0 q1 (5 : Int32) z8 z21)))])) _
  refine own_step (fun _ => XS.iload X6.here hx rfl (hb hby at_94) rfl) ?_
  show own_Goes p.tables e below (T6.setTop (mkF m 96 #[.val (.long q0), .second, .val (.long q1), .second, .val (.int p2), .val (.int p3), .val (.int z8), .val (.int z21), .unset, .unset, .unset] [(.int z21), (.int z8), (.int (6 : Int32)), (.long q1), (.long q0), (.long ((((((own_f1 q0 q1 (0 : Int32) z8 z21) ||| (own_f1 q0 q1 (1 : Int32) z8 z21)) ||| (own_f1 q0 q1 (2 : Int32) z8 z21)) ||| (own_f1 q0 q1 (3 : Int32) z8 z21)) ||| (own_f1 q0 q1 (4 : Int32) z8 z21)) ||| (own_f1 q0 q1 (5 : Int32) z8 z21)))])) _
  obtain ⟨_, _, ⟨T7, L7, k7, n7⟩, -, X7, ⟨Lc7, hQ7, l7, y7, z7⟩, st7⟩ := Jvm.LawKit.callS X6 hx (y := (⟨"com/example/kolektyv/kolektyv/records/BytesDigitsPinLaw", "byteAt", "(JJIII)J"⟩ : MethodName)) hown (mvT hZ (hw _ (List.mem_of_getElem? (i := 1) rfl))) (mvT hZ (hw _ (List.mem_of_getElem? (i := 2) rfl))) (mvT hZ (hw _ (List.mem_of_getElem? (i := 3) rfl))) (mvT hZ (hw _ (List.mem_of_getElem? (i := 4) rfl))) (by decide) (backOf (W := 2) (rm1 l Z a0 hw [] q0 q1 (6 : Int32) z8 z21 h0 n0 Z0) hZ (hw _ (List.mem_of_getElem? (i := 4) rfl)) (hw _ (List.mem_of_getElem? (i := 3) rfl)) (by decide) (by decide)) (g := (mkF m 96 #[.val (.long q0), .second, .val (.long q1), .second, .val (.int p2), .val (.int p3), .val (.int z8), .val (.int z21), .unset, .unset, .unset] [(.int z21), (.int z8), (.int (6 : Int32)), (.long q1), (.long q0), (.long ((((((own_f1 q0 q1 (0 : Int32) z8 z21) ||| (own_f1 q0 q1 (1 : Int32) z8 z21)) ||| (own_f1 q0 q1 (2 : Int32) z8 z21)) ||| (own_f1 q0 q1 (3 : Int32) z8 z21)) ||| (own_f1 q0 q1 (4 : Int32) z8 z21)) ||| (own_f1 q0 q1 (5 : Int32) z8 z21)))])) rfl (by rw [hml]; rfl) (argsL := [(.long q0), (.long q1), (.int (6 : Int32)), (.int z8), (.int z21)]) (rest := [(.long ((((((own_f1 q0 q1 (0 : Int32) z8 z21) ||| (own_f1 q0 q1 (1 : Int32) z8 z21)) ||| (own_f1 q0 q1 (2 : Int32) z8 z21)) ||| (own_f1 q0 q1 (3 : Int32) z8 z21)) ||| (own_f1 q0 q1 (4 : Int32) z8 z21)) ||| (own_f1 q0 q1 (5 : Int32) z8 z21)))]) (lenOf pd_0_0 rfl) rfl (by show 2 * 0 + _ ≤ _; exact Nat.le_of_eq rfl) (hb hby at_96) (fun _ _ => ⟨rfl, e6, (by decide : 0 + 0 ≤ _), (by decide : 0 + 0 ≤ _)⟩)
  dsimp only [Pt.U, Pt.locs, Pt.cells, Pt.slots] at X7 l7 y7 z7 st7 hQ7
  subst l7 y7 z7
  obtain ⟨rfl, rfl, e7⟩ := hQ7
  have X7 : Stand p l e room_1 s m #[(.long q0), (.long q1), (.int p2), (.int p3)] below meth c T7 [] 0 0 := own_flat X7
  refine own_step (st7) ?_
  show own_Goes p.tables e below (T7.setTop (mkF m 99 #[.val (.long q0), .second, .val (.long q1), .second, .val (.int p2), .val (.int p3), .val (.int z8), .val (.int z21), .unset, .unset, .unset] [(.long (own_f1 q0 q1 (6 : Int32) z8 z21)), (.long ((((((own_f1 q0 q1 (0 : Int32) z8 z21) ||| (own_f1 q0 q1 (1 : Int32) z8 z21)) ||| (own_f1 q0 q1 (2 : Int32) z8 z21)) ||| (own_f1 q0 q1 (3 : Int32) z8 z21)) ||| (own_f1 q0 q1 (4 : Int32) z8 z21)) ||| (own_f1 q0 q1 (5 : Int32) z8 z21)))])) _
  refine own_step (fun _ => XS.lor X7.here hx rfl (hb hby at_99) rfl) ?_
  show own_Goes p.tables e below (T7.setTop (mkF m 100 #[.val (.long q0), .second, .val (.long q1), .second, .val (.int p2), .val (.int p3), .val (.int z8), .val (.int z21), .unset, .unset, .unset] [(.long (((((((own_f1 q0 q1 (0 : Int32) z8 z21) ||| (own_f1 q0 q1 (1 : Int32) z8 z21)) ||| (own_f1 q0 q1 (2 : Int32) z8 z21)) ||| (own_f1 q0 q1 (3 : Int32) z8 z21)) ||| (own_f1 q0 q1 (4 : Int32) z8 z21)) ||| (own_f1 q0 q1 (5 : Int32) z8 z21)) ||| (own_f1 q0 q1 (6 : Int32) z8 z21)))])) _
  refine own_step (fun _ => XS.lloadN X7.here hx rfl (hb hby at_100) rfl) ?_
  show own_Goes p.tables e below (T7.setTop (mkF m 101 #[.val (.long q0), .second, .val (.long q1), .second, .val (.int p2), .val (.int p3), .val (.int z8), .val (.int z21), .unset, .unset, .unset] [(.long q0), (.long (((((((own_f1 q0 q1 (0 : Int32) z8 z21) ||| (own_f1 q0 q1 (1 : Int32) z8 z21)) ||| (own_f1 q0 q1 (2 : Int32) z8 z21)) ||| (own_f1 q0 q1 (3 : Int32) z8 z21)) ||| (own_f1 q0 q1 (4 : Int32) z8 z21)) ||| (own_f1 q0 q1 (5 : Int32) z8 z21)) ||| (own_f1 q0 q1 (6 : Int32) z8 z21)))])) _
  refine own_step (fun _ => XS.lloadN X7.here hx rfl (hb hby at_101) rfl) ?_
  show own_Goes p.tables e below (T7.setTop (mkF m 102 #[.val (.long q0), .second, .val (.long q1), .second, .val (.int p2), .val (.int p3), .val (.int z8), .val (.int z21), .unset, .unset, .unset] [(.long q1), (.long q0), (.long (((((((own_f1 q0 q1 (0 : Int32) z8 z21) ||| (own_f1 q0 q1 (1 : Int32) z8 z21)) ||| (own_f1 q0 q1 (2 : Int32) z8 z21)) ||| (own_f1 q0 q1 (3 : Int32) z8 z21)) ||| (own_f1 q0 q1 (4 : Int32) z8 z21)) ||| (own_f1 q0 q1 (5 : Int32) z8 z21)) ||| (own_f1 q0 q1 (6 : Int32) z8 z21)))])) _
  refine own_step (fun _ => XS.bipush X7.here hx rfl (hb hby at_102)) ?_
  show own_Goes p.tables e below (T7.setTop (mkF m 104 #[.val (.long q0), .second, .val (.long q1), .second, .val (.int p2), .val (.int p3), .val (.int z8), .val (.int z21), .unset, .unset, .unset] [(.int (7 : Int32)), (.long q1), (.long q0), (.long (((((((own_f1 q0 q1 (0 : Int32) z8 z21) ||| (own_f1 q0 q1 (1 : Int32) z8 z21)) ||| (own_f1 q0 q1 (2 : Int32) z8 z21)) ||| (own_f1 q0 q1 (3 : Int32) z8 z21)) ||| (own_f1 q0 q1 (4 : Int32) z8 z21)) ||| (own_f1 q0 q1 (5 : Int32) z8 z21)) ||| (own_f1 q0 q1 (6 : Int32) z8 z21)))])) _
  refine own_step (fun _ => XS.iload X7.here hx rfl (hb hby at_104) rfl) ?_
  show own_Goes p.tables e below (T7.setTop (mkF m 106 #[.val (.long q0), .second, .val (.long q1), .second, .val (.int p2), .val (.int p3), .val (.int z8), .val (.int z21), .unset, .unset, .unset] [(.int z8), (.int (7 : Int32)), (.long q1), (.long q0), (.long (((((((own_f1 q0 q1 (0 : Int32) z8 z21) ||| (own_f1 q0 q1 (1 : Int32) z8 z21)) ||| (own_f1 q0 q1 (2 : Int32) z8 z21)) ||| (own_f1 q0 q1 (3 : Int32) z8 z21)) ||| (own_f1 q0 q1 (4 : Int32) z8 z21)) ||| (own_f1 q0 q1 (5 : Int32) z8 z21)) ||| (own_f1 q0 q1 (6 : Int32) z8 z21)))])) _
  refine own_step (fun _ => XS.iload X7.here hx rfl (hb hby at_106) rfl) ?_
  show own_Goes p.tables e below (T7.setTop (mkF m 108 #[.val (.long q0), .second, .val (.long q1), .second, .val (.int p2), .val (.int p3), .val (.int z8), .val (.int z21), .unset, .unset, .unset] [(.int z21), (.int z8), (.int (7 : Int32)), (.long q1), (.long q0), (.long (((((((own_f1 q0 q1 (0 : Int32) z8 z21) ||| (own_f1 q0 q1 (1 : Int32) z8 z21)) ||| (own_f1 q0 q1 (2 : Int32) z8 z21)) ||| (own_f1 q0 q1 (3 : Int32) z8 z21)) ||| (own_f1 q0 q1 (4 : Int32) z8 z21)) ||| (own_f1 q0 q1 (5 : Int32) z8 z21)) ||| (own_f1 q0 q1 (6 : Int32) z8 z21)))])) _
  obtain ⟨_, _, ⟨T8, L8, k8, n8⟩, -, X8, ⟨Lc8, hQ8, l8, y8, z8⟩, st8⟩ := Jvm.LawKit.callS X7 hx (y := (⟨"com/example/kolektyv/kolektyv/records/BytesDigitsPinLaw", "byteAt", "(JJIII)J"⟩ : MethodName)) hown (mvT hZ (hw _ (List.mem_of_getElem? (i := 1) rfl))) (mvT hZ (hw _ (List.mem_of_getElem? (i := 2) rfl))) (mvT hZ (hw _ (List.mem_of_getElem? (i := 3) rfl))) (mvT hZ (hw _ (List.mem_of_getElem? (i := 4) rfl))) (by decide) (backOf (W := 2) (rm1 l Z a0 hw [] q0 q1 (7 : Int32) z8 z21 h0 n0 Z0) hZ (hw _ (List.mem_of_getElem? (i := 4) rfl)) (hw _ (List.mem_of_getElem? (i := 3) rfl)) (by decide) (by decide)) (g := (mkF m 108 #[.val (.long q0), .second, .val (.long q1), .second, .val (.int p2), .val (.int p3), .val (.int z8), .val (.int z21), .unset, .unset, .unset] [(.int z21), (.int z8), (.int (7 : Int32)), (.long q1), (.long q0), (.long (((((((own_f1 q0 q1 (0 : Int32) z8 z21) ||| (own_f1 q0 q1 (1 : Int32) z8 z21)) ||| (own_f1 q0 q1 (2 : Int32) z8 z21)) ||| (own_f1 q0 q1 (3 : Int32) z8 z21)) ||| (own_f1 q0 q1 (4 : Int32) z8 z21)) ||| (own_f1 q0 q1 (5 : Int32) z8 z21)) ||| (own_f1 q0 q1 (6 : Int32) z8 z21)))])) rfl (by rw [hml]; rfl) (argsL := [(.long q0), (.long q1), (.int (7 : Int32)), (.int z8), (.int z21)]) (rest := [(.long (((((((own_f1 q0 q1 (0 : Int32) z8 z21) ||| (own_f1 q0 q1 (1 : Int32) z8 z21)) ||| (own_f1 q0 q1 (2 : Int32) z8 z21)) ||| (own_f1 q0 q1 (3 : Int32) z8 z21)) ||| (own_f1 q0 q1 (4 : Int32) z8 z21)) ||| (own_f1 q0 q1 (5 : Int32) z8 z21)) ||| (own_f1 q0 q1 (6 : Int32) z8 z21)))]) (lenOf pd_0_0 rfl) rfl (by show 2 * 0 + _ ≤ _; exact Nat.le_of_eq rfl) (hb hby at_108) (fun _ _ => ⟨rfl, e7, (by decide : 0 + 0 ≤ _), (by decide : 0 + 0 ≤ _)⟩)
  dsimp only [Pt.U, Pt.locs, Pt.cells, Pt.slots] at X8 l8 y8 z8 st8 hQ8
  subst l8 y8 z8
  obtain ⟨rfl, rfl, e8⟩ := hQ8
  have X8 : Stand p l e room_1 s m #[(.long q0), (.long q1), (.int p2), (.int p3)] below meth c T8 [] 0 0 := own_flat X8
  refine own_step (st8) ?_
  show own_Goes p.tables e below (T8.setTop (mkF m 111 #[.val (.long q0), .second, .val (.long q1), .second, .val (.int p2), .val (.int p3), .val (.int z8), .val (.int z21), .unset, .unset, .unset] [(.long (own_f1 q0 q1 (7 : Int32) z8 z21)), (.long (((((((own_f1 q0 q1 (0 : Int32) z8 z21) ||| (own_f1 q0 q1 (1 : Int32) z8 z21)) ||| (own_f1 q0 q1 (2 : Int32) z8 z21)) ||| (own_f1 q0 q1 (3 : Int32) z8 z21)) ||| (own_f1 q0 q1 (4 : Int32) z8 z21)) ||| (own_f1 q0 q1 (5 : Int32) z8 z21)) ||| (own_f1 q0 q1 (6 : Int32) z8 z21)))])) _
  refine own_step (fun _ => XS.lor X8.here hx rfl (hb hby at_111) rfl) ?_
  show own_Goes p.tables e below (T8.setTop (mkF m 112 #[.val (.long q0), .second, .val (.long q1), .second, .val (.int p2), .val (.int p3), .val (.int z8), .val (.int z21), .unset, .unset, .unset] [(.long ((((((((own_f1 q0 q1 (0 : Int32) z8 z21) ||| (own_f1 q0 q1 (1 : Int32) z8 z21)) ||| (own_f1 q0 q1 (2 : Int32) z8 z21)) ||| (own_f1 q0 q1 (3 : Int32) z8 z21)) ||| (own_f1 q0 q1 (4 : Int32) z8 z21)) ||| (own_f1 q0 q1 (5 : Int32) z8 z21)) ||| (own_f1 q0 q1 (6 : Int32) z8 z21)) ||| (own_f1 q0 q1 (7 : Int32) z8 z21)))])) _
  obtain ⟨z112, hz112⟩ : ∃ z : Int64, z = ((((((((own_f1 q0 q1 (0 : Int32) z8 z21) ||| (own_f1 q0 q1 (1 : Int32) z8 z21)) ||| (own_f1 q0 q1 (2 : Int32) z8 z21)) ||| (own_f1 q0 q1 (3 : Int32) z8 z21)) ||| (own_f1 q0 q1 (4 : Int32) z8 z21)) ||| (own_f1 q0 q1 (5 : Int32) z8 z21)) ||| (own_f1 q0 q1 (6 : Int32) z8 z21)) ||| (own_f1 q0 q1 (7 : Int32) z8 z21)) := ⟨_, rfl⟩
  refine own_step (fun _ => XS.lstore X8.here hx rfl (hb hby at_112) rfl (l' := #[.val (.long q0), .second, .val (.long q1), .second, .val (.int p2), .val (.int p3), .val (.int z8), .val (.int z21), .val (.long z112), .second, .unset]) (by subst hz112; rfl)) ?_
  show own_Goes p.tables e below (T8.setTop (mkF m 114 #[.val (.long q0), .second, .val (.long q1), .second, .val (.int p2), .val (.int p3), .val (.int z8), .val (.int z21), .val (.long z112), .second, .unset] [])) _
  refine own_step (fun _ => XS.lloadN X8.here hx rfl (hb hby at_114) rfl) ?_
  show own_Goes p.tables e below (T8.setTop (mkF m 115 #[.val (.long q0), .second, .val (.long q1), .second, .val (.int p2), .val (.int p3), .val (.int z8), .val (.int z21), .val (.long z112), .second, .unset] [(.long q0)])) _
  refine own_step (fun _ => XS.iconst X8.here hx rfl (hb hby at_115)) ?_
  show own_Goes p.tables e below (T8.setTop (mkF m 116 #[.val (.long q0), .second, .val (.long q1), .second, .val (.int p2), .val (.int p3), .val (.int z8), .val (.int z21), .val (.long z112), .second, .unset] [(.int (0 : Int32)), (.long q0)])) _
  refine own_step (fun _ => XS.iload X8.here hx rfl (hb hby at_116) rfl) ?_
  show own_Goes p.tables e below (T8.setTop (mkF m 118 #[.val (.long q0), .second, .val (.long q1), .second, .val (.int p2), .val (.int p3), .val (.int z8), .val (.int z21), .val (.long z112), .second, .unset] [(.int z8), (.int (0 : Int32)), (.long q0)])) _
  refine own_step (fun _ => XS.iload X8.here hx rfl (hb hby at_118) rfl) ?_
  show own_Goes p.tables e below (T8.setTop (mkF m 120 #[.val (.long q0), .second, .val (.long q1), .second, .val (.int p2), .val (.int p3), .val (.int z8), .val (.int z21), .val (.long z112), .second, .unset] [(.int z21), (.int z8), (.int (0 : Int32)), (.long q0)])) _
  obtain ⟨_, _, ⟨T9, L9, k9, n9⟩, -, X9, ⟨Lc9, hQ9, l9, y9, z9⟩, st9⟩ := Jvm.LawKit.callS X8 hx (y := (⟨"com/example/kolektyv/kolektyv/records/BytesDigitsPinLaw", "term", "(JIII)I"⟩ : MethodName)) hown (mvT hZ (hw _ (List.mem_of_getElem? (i := 14) rfl))) (mvT hZ (hw _ (List.mem_of_getElem? (i := 15) rfl))) (mvT hZ (hw _ (List.mem_of_getElem? (i := 3) rfl))) (mvT hZ (hw _ (List.mem_of_getElem? (i := 16) rfl))) (by decide) (backOf (W := 0) (rm4 l Z a0 hw [] q0 (0 : Int32) z8 z21 h0 n0 Z0 (by subst hz21; subst hz8; exact own_count (own_first p2) p3)) hZ (hw _ (List.mem_of_getElem? (i := 16) rfl)) (hw _ (List.mem_of_getElem? (i := 3) rfl)) (by decide) (by decide)) (g := (mkF m 120 #[.val (.long q0), .second, .val (.long q1), .second, .val (.int p2), .val (.int p3), .val (.int z8), .val (.int z21), .val (.long z112), .second, .unset] [(.int z21), (.int z8), (.int (0 : Int32)), (.long q0)])) rfl (by rw [hml]; rfl) (argsL := [(.long q0), (.int (0 : Int32)), (.int z8), (.int z21)]) (rest := []) (lenOf pd_0_1 rfl) rfl (by show 2 * 0 + _ ≤ _; exact Nat.le_of_eq rfl) (hb hby at_120) (fun _ _ => ⟨rfl, e8, (by decide : 0 + 1 ≤ _), (by decide : 0 + 8 ≤ _)⟩)
  dsimp only [Pt.U, Pt.locs, Pt.cells, Pt.slots] at X9 l9 y9 z9 st9 hQ9
  subst y9 z9
  obtain ⟨rfl, Nq9, Kq9⟩ := hQ9
  have N9 : Fr n0 L9 := by rw [l9]; exact Fr.app N0 Nq9
  have K9 : Keep h0 T9.heap [] := (Keep.refl h0 []).trans Kq9 all0
  have Z9 : n0 ≤ T9.heap.size := Nat.le_trans Z0 Kq9.1
  refine own_step (st9) ?_
  show own_Goes p.tables e below (T9.setTop (mkF m 123 #[.val (.long q0), .second, .val (.long q1), .second, .val (.int p2), .val (.int p3), .val (.int z8), .val (.int z21), .val (.long z112), .second, .unset] [(.int (own_f4 q0 (0 : Int32) z8 z21))])) _
  refine own_step (fun _ => XS.lloadN X9.here hx rfl (hb hby at_123) rfl) ?_
  show own_Goes p.tables e below (T9.setTop (mkF m 124 #[.val (.long q0), .second, .val (.long q1), .second, .val (.int p2), .val (.int p3), .val (.int z8), .val (.int z21), .val (.long z112), .second, .unset] [(.long q0), (.int (own_f4 q0 (0 : Int32) z8 z21))])) _
  refine own_step (fun _ => XS.iconst X9.here hx rfl (hb hby at_124)) ?_
  show own_Goes p.tables e below (T9.setTop (mkF m 125 #[.val (.long q0), .second, .val (.long q1), .second, .val (.int p2), .val (.int p3), .val (.int z8), .val (.int z21), .val (.long z112), .second, .unset] [(.int (1 : Int32)), (.long q0), (.int (own_f4 q0 (0 : Int32) z8 z21))])) _
  refine own_step (fun _ => XS.iload X9.here hx rfl (hb hby at_125) rfl) ?_
  show own_Goes p.tables e below (T9.setTop (mkF m 127 #[.val (.long q0), .second, .val (.long q1), .second, .val (.int p2), .val (.int p3), .val (.int z8), .val (.int z21), .val (.long z112), .second, .unset] [(.int z8), (.int (1 : Int32)), (.long q0), (.int (own_f4 q0 (0 : Int32) z8 z21))])) _
  refine own_step (fun _ => XS.iload X9.here hx rfl (hb hby at_127) rfl) ?_
  show own_Goes p.tables e below (T9.setTop (mkF m 129 #[.val (.long q0), .second, .val (.long q1), .second, .val (.int p2), .val (.int p3), .val (.int z8), .val (.int z21), .val (.long z112), .second, .unset] [(.int z21), (.int z8), (.int (1 : Int32)), (.long q0), (.int (own_f4 q0 (0 : Int32) z8 z21))])) _
  obtain ⟨_, _, ⟨T10, L10, k10, n10⟩, -, X10, ⟨Lc10, hQ10, l10, y10, z10⟩, st10⟩ := Jvm.LawKit.callS X9 hx (y := (⟨"com/example/kolektyv/kolektyv/records/BytesDigitsPinLaw", "term", "(JIII)I"⟩ : MethodName)) hown (mvT hZ (hw _ (List.mem_of_getElem? (i := 14) rfl))) (mvT hZ (hw _ (List.mem_of_getElem? (i := 15) rfl))) (mvT hZ (hw _ (List.mem_of_getElem? (i := 3) rfl))) (mvT hZ (hw _ (List.mem_of_getElem? (i := 16) rfl))) (by decide) (backOf (W := 1) (rm4 l Z a0 hw [] q0 (1 : Int32) z8 z21 T9.heap n0 Z9 (by subst hz21; subst hz8; exact own_count (own_first p2) p3)) hZ (hw _ (List.mem_of_getElem? (i := 16) rfl)) (hw _ (List.mem_of_getElem? (i := 3) rfl)) (by decide) (by decide)) (g := (mkF m 129 #[.val (.long q0), .second, .val (.long q1), .second, .val (.int p2), .val (.int p3), .val (.int z8), .val (.int z21), .val (.long z112), .second, .unset] [(.int z21), (.int z8), (.int (1 : Int32)), (.long q0), (.int (own_f4 q0 (0 : Int32) z8 z21))])) rfl (by rw [hml]; rfl) (argsL := [(.long q0), (.int (1 : Int32)), (.int z8), (.int z21)]) (rest := [(.int (own_f4 q0 (0 : Int32) z8 z21))]) (lenOf pd_0_1 rfl) rfl (by show 2 * 0 + _ ≤ _; exact Nat.le_of_eq rfl) (hb hby at_129) (fun _ _ => ⟨rfl, rfl, (by decide : (0 + 1) + 1 ≤ _), (by decide : (0 + 8) + 8 ≤ _)⟩)
  dsimp only [Pt.U, Pt.locs, Pt.cells, Pt.slots] at X10 l10 y10 z10 st10 hQ10
  subst y10 z10
  obtain ⟨rfl, Nq10, Kq10⟩ := hQ10
  have N10 : Fr n0 L10 := by rw [l10]; exact Fr.app N9 Nq10
  have K10 : Keep h0 T10.heap [] := K9.trans Kq10 all0
  have Z10 : n0 ≤ T10.heap.size := Nat.le_trans Z9 Kq10.1
  refine own_step (st10) ?_
  show own_Goes p.tables e below (T10.setTop (mkF m 132 #[.val (.long q0), .second, .val (.long q1), .second, .val (.int p2), .val (.int p3), .val (.int z8), .val (.int z21), .val (.long z112), .second, .unset] [(.int (own_f4 q0 (1 : Int32) z8 z21)), (.int (own_f4 q0 (0 : Int32) z8 z21))])) _
  refine own_step (fun _ => XS.iadd X10.here hx rfl (hb hby at_132) rfl) ?_
  show own_Goes p.tables e below (T10.setTop (mkF m 133 #[.val (.long q0), .second, .val (.long q1), .second, .val (.int p2), .val (.int p3), .val (.int z8), .val (.int z21), .val (.long z112), .second, .unset] [(.int ((own_f4 q0 (0 : Int32) z8 z21) + (own_f4 q0 (1 : Int32) z8 z21)))])) _
  refine own_step (fun _ => XS.lloadN X10.here hx rfl (hb hby at_133) rfl) ?_
  show own_Goes p.tables e below (T10.setTop (mkF m 134 #[.val (.long q0), .second, .val (.long q1), .second, .val (.int p2), .val (.int p3), .val (.int z8), .val (.int z21), .val (.long z112), .second, .unset] [(.long q0), (.int ((own_f4 q0 (0 : Int32) z8 z21) + (own_f4 q0 (1 : Int32) z8 z21)))])) _
  refine own_step (fun _ => XS.iconst X10.here hx rfl (hb hby at_134)) ?_
  show own_Goes p.tables e below (T10.setTop (mkF m 135 #[.val (.long q0), .second, .val (.long q1), .second, .val (.int p2), .val (.int p3), .val (.int z8), .val (.int z21), .val (.long z112), .second, .unset] [(.int (2 : Int32)), (.long q0), (.int ((own_f4 q0 (0 : Int32) z8 z21) + (own_f4 q0 (1 : Int32) z8 z21)))])) _
  refine own_step (fun _ => XS.iload X10.here hx rfl (hb hby at_135) rfl) ?_
  show own_Goes p.tables e below (T10.setTop (mkF m 137 #[.val (.long q0), .second, .val (.long q1), .second, .val (.int p2), .val (.int p3), .val (.int z8), .val (.int z21), .val (.long z112), .second, .unset] [(.int z8), (.int (2 : Int32)), (.long q0), (.int ((own_f4 q0 (0 : Int32) z8 z21) + (own_f4 q0 (1 : Int32) z8 z21)))])) _
  refine own_step (fun _ => XS.iload X10.here hx rfl (hb hby at_137) rfl) ?_
  show own_Goes p.tables e below (T10.setTop (mkF m 139 #[.val (.long q0), .second, .val (.long q1), .second, .val (.int p2), .val (.int p3), .val (.int z8), .val (.int z21), .val (.long z112), .second, .unset] [(.int z21), (.int z8), (.int (2 : Int32)), (.long q0), (.int ((own_f4 q0 (0 : Int32) z8 z21) + (own_f4 q0 (1 : Int32) z8 z21)))])) _
  obtain ⟨_, _, ⟨T11, L11, k11, n11⟩, -, X11, ⟨Lc11, hQ11, l11, y11, z11⟩, st11⟩ := Jvm.LawKit.callS X10 hx (y := (⟨"com/example/kolektyv/kolektyv/records/BytesDigitsPinLaw", "term", "(JIII)I"⟩ : MethodName)) hown (mvT hZ (hw _ (List.mem_of_getElem? (i := 14) rfl))) (mvT hZ (hw _ (List.mem_of_getElem? (i := 15) rfl))) (mvT hZ (hw _ (List.mem_of_getElem? (i := 3) rfl))) (mvT hZ (hw _ (List.mem_of_getElem? (i := 16) rfl))) (by decide) (backOf (W := 1) (rm4 l Z a0 hw [] q0 (2 : Int32) z8 z21 T10.heap n0 Z10 (by subst hz21; subst hz8; exact own_count (own_first p2) p3)) hZ (hw _ (List.mem_of_getElem? (i := 16) rfl)) (hw _ (List.mem_of_getElem? (i := 3) rfl)) (by decide) (by decide)) (g := (mkF m 139 #[.val (.long q0), .second, .val (.long q1), .second, .val (.int p2), .val (.int p3), .val (.int z8), .val (.int z21), .val (.long z112), .second, .unset] [(.int z21), (.int z8), (.int (2 : Int32)), (.long q0), (.int ((own_f4 q0 (0 : Int32) z8 z21) + (own_f4 q0 (1 : Int32) z8 z21)))])) rfl (by rw [hml]; rfl) (argsL := [(.long q0), (.int (2 : Int32)), (.int z8), (.int z21)]) (rest := [(.int ((own_f4 q0 (0 : Int32) z8 z21) + (own_f4 q0 (1 : Int32) z8 z21)))]) (lenOf pd_0_1 rfl) rfl (by show 2 * 0 + _ ≤ _; exact Nat.le_of_eq rfl) (hb hby at_139) (fun _ _ => ⟨rfl, rfl, (by decide : ((0 + 1) + 1) + 1 ≤ _), (by decide : ((0 + 8) + 8) + 8 ≤ _)⟩)
  dsimp only [Pt.U, Pt.locs, Pt.cells, Pt.slots] at X11 l11 y11 z11 st11 hQ11
  subst y11 z11
  obtain ⟨rfl, Nq11, Kq11⟩ := hQ11
  have N11 : Fr n0 L11 := by rw [l11]; exact Fr.app N10 Nq11
  have K11 : Keep h0 T11.heap [] := K10.trans Kq11 all0
  have Z11 : n0 ≤ T11.heap.size := Nat.le_trans Z10 Kq11.1
  refine own_step (st11) ?_
  show own_Goes p.tables e below (T11.setTop (mkF m 142 #[.val (.long q0), .second, .val (.long q1), .second, .val (.int p2), .val (.int p3), .val (.int z8), .val (.int z21), .val (.long z112), .second, .unset] [(.int (own_f4 q0 (2 : Int32) z8 z21)), (.int ((own_f4 q0 (0 : Int32) z8 z21) + (own_f4 q0 (1 : Int32) z8 z21)))])) _
  refine own_step (fun _ => XS.iadd X11.here hx rfl (hb hby at_142) rfl) ?_
  show own_Goes p.tables e below (T11.setTop (mkF m 143 #[.val (.long q0), .second, .val (.long q1), .second, .val (.int p2), .val (.int p3), .val (.int z8), .val (.int z21), .val (.long z112), .second, .unset] [(.int (((own_f4 q0 (0 : Int32) z8 z21) + (own_f4 q0 (1 : Int32) z8 z21)) + (own_f4 q0 (2 : Int32) z8 z21)))])) _
  refine own_step (fun _ => XS.lloadN X11.here hx rfl (hb hby at_143) rfl) ?_
  show own_Goes p.tables e below (T11.setTop (mkF m 144 #[.val (.long q0), .second, .val (.long q1), .second, .val (.int p2), .val (.int p3), .val (.int z8), .val (.int z21), .val (.long z112), .second, .unset] [(.long q0), (.int (((own_f4 q0 (0 : Int32) z8 z21) + (own_f4 q0 (1 : Int32) z8 z21)) + (own_f4 q0 (2 : Int32) z8 z21)))])) _
  refine own_step (fun _ => XS.iconst X11.here hx rfl (hb hby at_144)) ?_
  show own_Goes p.tables e below (T11.setTop (mkF m 145 #[.val (.long q0), .second, .val (.long q1), .second, .val (.int p2), .val (.int p3), .val (.int z8), .val (.int z21), .val (.long z112), .second, .unset] [(.int (3 : Int32)), (.long q0), (.int (((own_f4 q0 (0 : Int32) z8 z21) + (own_f4 q0 (1 : Int32) z8 z21)) + (own_f4 q0 (2 : Int32) z8 z21)))])) _
  refine own_step (fun _ => XS.iload X11.here hx rfl (hb hby at_145) rfl) ?_
  show own_Goes p.tables e below (T11.setTop (mkF m 147 #[.val (.long q0), .second, .val (.long q1), .second, .val (.int p2), .val (.int p3), .val (.int z8), .val (.int z21), .val (.long z112), .second, .unset] [(.int z8), (.int (3 : Int32)), (.long q0), (.int (((own_f4 q0 (0 : Int32) z8 z21) + (own_f4 q0 (1 : Int32) z8 z21)) + (own_f4 q0 (2 : Int32) z8 z21)))])) _
  refine own_step (fun _ => XS.iload X11.here hx rfl (hb hby at_147) rfl) ?_
  show own_Goes p.tables e below (T11.setTop (mkF m 149 #[.val (.long q0), .second, .val (.long q1), .second, .val (.int p2), .val (.int p3), .val (.int z8), .val (.int z21), .val (.long z112), .second, .unset] [(.int z21), (.int z8), (.int (3 : Int32)), (.long q0), (.int (((own_f4 q0 (0 : Int32) z8 z21) + (own_f4 q0 (1 : Int32) z8 z21)) + (own_f4 q0 (2 : Int32) z8 z21)))])) _
  obtain ⟨_, _, ⟨T12, L12, k12, n12⟩, -, X12, ⟨Lc12, hQ12, l12, y12, z12⟩, st12⟩ := Jvm.LawKit.callS X11 hx (y := (⟨"com/example/kolektyv/kolektyv/records/BytesDigitsPinLaw", "term", "(JIII)I"⟩ : MethodName)) hown (mvT hZ (hw _ (List.mem_of_getElem? (i := 14) rfl))) (mvT hZ (hw _ (List.mem_of_getElem? (i := 15) rfl))) (mvT hZ (hw _ (List.mem_of_getElem? (i := 3) rfl))) (mvT hZ (hw _ (List.mem_of_getElem? (i := 16) rfl))) (by decide) (backOf (W := 1) (rm4 l Z a0 hw [] q0 (3 : Int32) z8 z21 T11.heap n0 Z11 (by subst hz21; subst hz8; exact own_count (own_first p2) p3)) hZ (hw _ (List.mem_of_getElem? (i := 16) rfl)) (hw _ (List.mem_of_getElem? (i := 3) rfl)) (by decide) (by decide)) (g := (mkF m 149 #[.val (.long q0), .second, .val (.long q1), .second, .val (.int p2), .val (.int p3), .val (.int z8), .val (.int z21), .val (.long z112), .second, .unset] [(.int z21), (.int z8), (.int (3 : Int32)), (.long q0), (.int (((own_f4 q0 (0 : Int32) z8 z21) + (own_f4 q0 (1 : Int32) z8 z21)) + (own_f4 q0 (2 : Int32) z8 z21)))])) rfl (by rw [hml]; rfl) (argsL := [(.long q0), (.int (3 : Int32)), (.int z8), (.int z21)]) (rest := [(.int (((own_f4 q0 (0 : Int32) z8 z21) + (own_f4 q0 (1 : Int32) z8 z21)) + (own_f4 q0 (2 : Int32) z8 z21)))]) (lenOf pd_0_1 rfl) rfl (by show 2 * 0 + _ ≤ _; exact Nat.le_of_eq rfl) (hb hby at_149) (fun _ _ => ⟨rfl, rfl, (by decide : (((0 + 1) + 1) + 1) + 1 ≤ _), (by decide : (((0 + 8) + 8) + 8) + 8 ≤ _)⟩)
  dsimp only [Pt.U, Pt.locs, Pt.cells, Pt.slots] at X12 l12 y12 z12 st12 hQ12
  subst y12 z12
  obtain ⟨rfl, Nq12, Kq12⟩ := hQ12
  have N12 : Fr n0 L12 := by rw [l12]; exact Fr.app N11 Nq12
  have K12 : Keep h0 T12.heap [] := K11.trans Kq12 all0
  have Z12 : n0 ≤ T12.heap.size := Nat.le_trans Z11 Kq12.1
  refine own_step (st12) ?_
  show own_Goes p.tables e below (T12.setTop (mkF m 152 #[.val (.long q0), .second, .val (.long q1), .second, .val (.int p2), .val (.int p3), .val (.int z8), .val (.int z21), .val (.long z112), .second, .unset] [(.int (own_f4 q0 (3 : Int32) z8 z21)), (.int (((own_f4 q0 (0 : Int32) z8 z21) + (own_f4 q0 (1 : Int32) z8 z21)) + (own_f4 q0 (2 : Int32) z8 z21)))])) _
  refine own_step (fun _ => XS.iadd X12.here hx rfl (hb hby at_152) rfl) ?_
  show own_Goes p.tables e below (T12.setTop (mkF m 153 #[.val (.long q0), .second, .val (.long q1), .second, .val (.int p2), .val (.int p3), .val (.int z8), .val (.int z21), .val (.long z112), .second, .unset] [(.int ((((own_f4 q0 (0 : Int32) z8 z21) + (own_f4 q0 (1 : Int32) z8 z21)) + (own_f4 q0 (2 : Int32) z8 z21)) + (own_f4 q0 (3 : Int32) z8 z21)))])) _
  refine own_step (fun _ => XS.lloadN X12.here hx rfl (hb hby at_153) rfl) ?_
  show own_Goes p.tables e below (T12.setTop (mkF m 154 #[.val (.long q0), .second, .val (.long q1), .second, .val (.int p2), .val (.int p3), .val (.int z8), .val (.int z21), .val (.long z112), .second, .unset] [(.long q0), (.int ((((own_f4 q0 (0 : Int32) z8 z21) + (own_f4 q0 (1 : Int32) z8 z21)) + (own_f4 q0 (2 : Int32) z8 z21)) + (own_f4 q0 (3 : Int32) z8 z21)))])) _
  refine own_step (fun _ => XS.iconst X12.here hx rfl (hb hby at_154)) ?_
  show own_Goes p.tables e below (T12.setTop (mkF m 155 #[.val (.long q0), .second, .val (.long q1), .second, .val (.int p2), .val (.int p3), .val (.int z8), .val (.int z21), .val (.long z112), .second, .unset] [(.int (4 : Int32)), (.long q0), (.int ((((own_f4 q0 (0 : Int32) z8 z21) + (own_f4 q0 (1 : Int32) z8 z21)) + (own_f4 q0 (2 : Int32) z8 z21)) + (own_f4 q0 (3 : Int32) z8 z21)))])) _
  refine own_step (fun _ => XS.iload X12.here hx rfl (hb hby at_155) rfl) ?_
  show own_Goes p.tables e below (T12.setTop (mkF m 157 #[.val (.long q0), .second, .val (.long q1), .second, .val (.int p2), .val (.int p3), .val (.int z8), .val (.int z21), .val (.long z112), .second, .unset] [(.int z8), (.int (4 : Int32)), (.long q0), (.int ((((own_f4 q0 (0 : Int32) z8 z21) + (own_f4 q0 (1 : Int32) z8 z21)) + (own_f4 q0 (2 : Int32) z8 z21)) + (own_f4 q0 (3 : Int32) z8 z21)))])) _
  refine own_step (fun _ => XS.iload X12.here hx rfl (hb hby at_157) rfl) ?_
  show own_Goes p.tables e below (T12.setTop (mkF m 159 #[.val (.long q0), .second, .val (.long q1), .second, .val (.int p2), .val (.int p3), .val (.int z8), .val (.int z21), .val (.long z112), .second, .unset] [(.int z21), (.int z8), (.int (4 : Int32)), (.long q0), (.int ((((own_f4 q0 (0 : Int32) z8 z21) + (own_f4 q0 (1 : Int32) z8 z21)) + (own_f4 q0 (2 : Int32) z8 z21)) + (own_f4 q0 (3 : Int32) z8 z21)))])) _
  obtain ⟨_, _, ⟨T13, L13, k13, n13⟩, -, X13, ⟨Lc13, hQ13, l13, y13, z13⟩, st13⟩ := Jvm.LawKit.callS X12 hx (y := (⟨"com/example/kolektyv/kolektyv/records/BytesDigitsPinLaw", "term", "(JIII)I"⟩ : MethodName)) hown (mvT hZ (hw _ (List.mem_of_getElem? (i := 14) rfl))) (mvT hZ (hw _ (List.mem_of_getElem? (i := 15) rfl))) (mvT hZ (hw _ (List.mem_of_getElem? (i := 3) rfl))) (mvT hZ (hw _ (List.mem_of_getElem? (i := 16) rfl))) (by decide) (backOf (W := 1) (rm4 l Z a0 hw [] q0 (4 : Int32) z8 z21 T12.heap n0 Z12 (by subst hz21; subst hz8; exact own_count (own_first p2) p3)) hZ (hw _ (List.mem_of_getElem? (i := 16) rfl)) (hw _ (List.mem_of_getElem? (i := 3) rfl)) (by decide) (by decide)) (g := (mkF m 159 #[.val (.long q0), .second, .val (.long q1), .second, .val (.int p2), .val (.int p3), .val (.int z8), .val (.int z21), .val (.long z112), .second, .unset] [(.int z21), (.int z8), (.int (4 : Int32)), (.long q0), (.int ((((own_f4 q0 (0 : Int32) z8 z21) + (own_f4 q0 (1 : Int32) z8 z21)) + (own_f4 q0 (2 : Int32) z8 z21)) + (own_f4 q0 (3 : Int32) z8 z21)))])) rfl (by rw [hml]; rfl) (argsL := [(.long q0), (.int (4 : Int32)), (.int z8), (.int z21)]) (rest := [(.int ((((own_f4 q0 (0 : Int32) z8 z21) + (own_f4 q0 (1 : Int32) z8 z21)) + (own_f4 q0 (2 : Int32) z8 z21)) + (own_f4 q0 (3 : Int32) z8 z21)))]) (lenOf pd_0_1 rfl) rfl (by show 2 * 0 + _ ≤ _; exact Nat.le_of_eq rfl) (hb hby at_159) (fun _ _ => ⟨rfl, rfl, (by decide : ((((0 + 1) + 1) + 1) + 1) + 1 ≤ _), (by decide : ((((0 + 8) + 8) + 8) + 8) + 8 ≤ _)⟩)
  dsimp only [Pt.U, Pt.locs, Pt.cells, Pt.slots] at X13 l13 y13 z13 st13 hQ13
  subst y13 z13
  obtain ⟨rfl, Nq13, Kq13⟩ := hQ13
  have N13 : Fr n0 L13 := by rw [l13]; exact Fr.app N12 Nq13
  have K13 : Keep h0 T13.heap [] := K12.trans Kq13 all0
  have Z13 : n0 ≤ T13.heap.size := Nat.le_trans Z12 Kq13.1
  refine own_step (st13) ?_
  show own_Goes p.tables e below (T13.setTop (mkF m 162 #[.val (.long q0), .second, .val (.long q1), .second, .val (.int p2), .val (.int p3), .val (.int z8), .val (.int z21), .val (.long z112), .second, .unset] [(.int (own_f4 q0 (4 : Int32) z8 z21)), (.int ((((own_f4 q0 (0 : Int32) z8 z21) + (own_f4 q0 (1 : Int32) z8 z21)) + (own_f4 q0 (2 : Int32) z8 z21)) + (own_f4 q0 (3 : Int32) z8 z21)))])) _
  refine own_step (fun _ => XS.iadd X13.here hx rfl (hb hby at_162) rfl) ?_
  show own_Goes p.tables e below (T13.setTop (mkF m 163 #[.val (.long q0), .second, .val (.long q1), .second, .val (.int p2), .val (.int p3), .val (.int z8), .val (.int z21), .val (.long z112), .second, .unset] [(.int (((((own_f4 q0 (0 : Int32) z8 z21) + (own_f4 q0 (1 : Int32) z8 z21)) + (own_f4 q0 (2 : Int32) z8 z21)) + (own_f4 q0 (3 : Int32) z8 z21)) + (own_f4 q0 (4 : Int32) z8 z21)))])) _
  refine own_step (fun _ => XS.lloadN X13.here hx rfl (hb hby at_163) rfl) ?_
  show own_Goes p.tables e below (T13.setTop (mkF m 164 #[.val (.long q0), .second, .val (.long q1), .second, .val (.int p2), .val (.int p3), .val (.int z8), .val (.int z21), .val (.long z112), .second, .unset] [(.long q0), (.int (((((own_f4 q0 (0 : Int32) z8 z21) + (own_f4 q0 (1 : Int32) z8 z21)) + (own_f4 q0 (2 : Int32) z8 z21)) + (own_f4 q0 (3 : Int32) z8 z21)) + (own_f4 q0 (4 : Int32) z8 z21)))])) _
  refine own_step (fun _ => XS.iconst X13.here hx rfl (hb hby at_164)) ?_
  show own_Goes p.tables e below (T13.setTop (mkF m 165 #[.val (.long q0), .second, .val (.long q1), .second, .val (.int p2), .val (.int p3), .val (.int z8), .val (.int z21), .val (.long z112), .second, .unset] [(.int (5 : Int32)), (.long q0), (.int (((((own_f4 q0 (0 : Int32) z8 z21) + (own_f4 q0 (1 : Int32) z8 z21)) + (own_f4 q0 (2 : Int32) z8 z21)) + (own_f4 q0 (3 : Int32) z8 z21)) + (own_f4 q0 (4 : Int32) z8 z21)))])) _
  refine own_step (fun _ => XS.iload X13.here hx rfl (hb hby at_165) rfl) ?_
  show own_Goes p.tables e below (T13.setTop (mkF m 167 #[.val (.long q0), .second, .val (.long q1), .second, .val (.int p2), .val (.int p3), .val (.int z8), .val (.int z21), .val (.long z112), .second, .unset] [(.int z8), (.int (5 : Int32)), (.long q0), (.int (((((own_f4 q0 (0 : Int32) z8 z21) + (own_f4 q0 (1 : Int32) z8 z21)) + (own_f4 q0 (2 : Int32) z8 z21)) + (own_f4 q0 (3 : Int32) z8 z21)) + (own_f4 q0 (4 : Int32) z8 z21)))])) _
  refine own_step (fun _ => XS.iload X13.here hx rfl (hb hby at_167) rfl) ?_
  show own_Goes p.tables e below (T13.setTop (mkF m 169 #[.val (.long q0), .second, .val (.long q1), .second, .val (.int p2), .val (.int p3), .val (.int z8), .val (.int z21), .val (.long z112), .second, .unset] [(.int z21), (.int z8), (.int (5 : Int32)), (.long q0), (.int (((((own_f4 q0 (0 : Int32) z8 z21) + (own_f4 q0 (1 : Int32) z8 z21)) + (own_f4 q0 (2 : Int32) z8 z21)) + (own_f4 q0 (3 : Int32) z8 z21)) + (own_f4 q0 (4 : Int32) z8 z21)))])) _
  obtain ⟨_, _, ⟨T14, L14, k14, n14⟩, -, X14, ⟨Lc14, hQ14, l14, y14, z14⟩, st14⟩ := Jvm.LawKit.callS X13 hx (y := (⟨"com/example/kolektyv/kolektyv/records/BytesDigitsPinLaw", "term", "(JIII)I"⟩ : MethodName)) hown (mvT hZ (hw _ (List.mem_of_getElem? (i := 14) rfl))) (mvT hZ (hw _ (List.mem_of_getElem? (i := 15) rfl))) (mvT hZ (hw _ (List.mem_of_getElem? (i := 3) rfl))) (mvT hZ (hw _ (List.mem_of_getElem? (i := 16) rfl))) (by decide) (backOf (W := 1) (rm4 l Z a0 hw [] q0 (5 : Int32) z8 z21 T13.heap n0 Z13 (by subst hz21; subst hz8; exact own_count (own_first p2) p3)) hZ (hw _ (List.mem_of_getElem? (i := 16) rfl)) (hw _ (List.mem_of_getElem? (i := 3) rfl)) (by decide) (by decide)) (g := (mkF m 169 #[.val (.long q0), .second, .val (.long q1), .second, .val (.int p2), .val (.int p3), .val (.int z8), .val (.int z21), .val (.long z112), .second, .unset] [(.int z21), (.int z8), (.int (5 : Int32)), (.long q0), (.int (((((own_f4 q0 (0 : Int32) z8 z21) + (own_f4 q0 (1 : Int32) z8 z21)) + (own_f4 q0 (2 : Int32) z8 z21)) + (own_f4 q0 (3 : Int32) z8 z21)) + (own_f4 q0 (4 : Int32) z8 z21)))])) rfl (by rw [hml]; rfl) (argsL := [(.long q0), (.int (5 : Int32)), (.int z8), (.int z21)]) (rest := [(.int (((((own_f4 q0 (0 : Int32) z8 z21) + (own_f4 q0 (1 : Int32) z8 z21)) + (own_f4 q0 (2 : Int32) z8 z21)) + (own_f4 q0 (3 : Int32) z8 z21)) + (own_f4 q0 (4 : Int32) z8 z21)))]) (lenOf pd_0_1 rfl) rfl (by show 2 * 0 + _ ≤ _; exact Nat.le_of_eq rfl) (hb hby at_169) (fun _ _ => ⟨rfl, rfl, (by decide : (((((0 + 1) + 1) + 1) + 1) + 1) + 1 ≤ _), (by decide : (((((0 + 8) + 8) + 8) + 8) + 8) + 8 ≤ _)⟩)
  dsimp only [Pt.U, Pt.locs, Pt.cells, Pt.slots] at X14 l14 y14 z14 st14 hQ14
  subst y14 z14
  obtain ⟨rfl, Nq14, Kq14⟩ := hQ14
  have N14 : Fr n0 L14 := by rw [l14]; exact Fr.app N13 Nq14
  have K14 : Keep h0 T14.heap [] := K13.trans Kq14 all0
  have Z14 : n0 ≤ T14.heap.size := Nat.le_trans Z13 Kq14.1
  refine own_step (st14) ?_
  show own_Goes p.tables e below (T14.setTop (mkF m 172 #[.val (.long q0), .second, .val (.long q1), .second, .val (.int p2), .val (.int p3), .val (.int z8), .val (.int z21), .val (.long z112), .second, .unset] [(.int (own_f4 q0 (5 : Int32) z8 z21)), (.int (((((own_f4 q0 (0 : Int32) z8 z21) + (own_f4 q0 (1 : Int32) z8 z21)) + (own_f4 q0 (2 : Int32) z8 z21)) + (own_f4 q0 (3 : Int32) z8 z21)) + (own_f4 q0 (4 : Int32) z8 z21)))])) _
  refine own_step (fun _ => XS.iadd X14.here hx rfl (hb hby at_172) rfl) ?_
  show own_Goes p.tables e below (T14.setTop (mkF m 173 #[.val (.long q0), .second, .val (.long q1), .second, .val (.int p2), .val (.int p3), .val (.int z8), .val (.int z21), .val (.long z112), .second, .unset] [(.int ((((((own_f4 q0 (0 : Int32) z8 z21) + (own_f4 q0 (1 : Int32) z8 z21)) + (own_f4 q0 (2 : Int32) z8 z21)) + (own_f4 q0 (3 : Int32) z8 z21)) + (own_f4 q0 (4 : Int32) z8 z21)) + (own_f4 q0 (5 : Int32) z8 z21)))])) _
  refine own_step (fun _ => XS.lloadN X14.here hx rfl (hb hby at_173) rfl) ?_
  show own_Goes p.tables e below (T14.setTop (mkF m 174 #[.val (.long q0), .second, .val (.long q1), .second, .val (.int p2), .val (.int p3), .val (.int z8), .val (.int z21), .val (.long z112), .second, .unset] [(.long q0), (.int ((((((own_f4 q0 (0 : Int32) z8 z21) + (own_f4 q0 (1 : Int32) z8 z21)) + (own_f4 q0 (2 : Int32) z8 z21)) + (own_f4 q0 (3 : Int32) z8 z21)) + (own_f4 q0 (4 : Int32) z8 z21)) + (own_f4 q0 (5 : Int32) z8 z21)))])) _
  refine own_step (fun _ => XS.bipush X14.here hx rfl (hb hby at_174)) ?_
  show own_Goes p.tables e below (T14.setTop (mkF m 176 #[.val (.long q0), .second, .val (.long q1), .second, .val (.int p2), .val (.int p3), .val (.int z8), .val (.int z21), .val (.long z112), .second, .unset] [(.int (6 : Int32)), (.long q0), (.int ((((((own_f4 q0 (0 : Int32) z8 z21) + (own_f4 q0 (1 : Int32) z8 z21)) + (own_f4 q0 (2 : Int32) z8 z21)) + (own_f4 q0 (3 : Int32) z8 z21)) + (own_f4 q0 (4 : Int32) z8 z21)) + (own_f4 q0 (5 : Int32) z8 z21)))])) _
  refine own_step (fun _ => XS.iload X14.here hx rfl (hb hby at_176) rfl) ?_
  show own_Goes p.tables e below (T14.setTop (mkF m 178 #[.val (.long q0), .second, .val (.long q1), .second, .val (.int p2), .val (.int p3), .val (.int z8), .val (.int z21), .val (.long z112), .second, .unset] [(.int z8), (.int (6 : Int32)), (.long q0), (.int ((((((own_f4 q0 (0 : Int32) z8 z21) + (own_f4 q0 (1 : Int32) z8 z21)) + (own_f4 q0 (2 : Int32) z8 z21)) + (own_f4 q0 (3 : Int32) z8 z21)) + (own_f4 q0 (4 : Int32) z8 z21)) + (own_f4 q0 (5 : Int32) z8 z21)))])) _
  refine own_step (fun _ => XS.iload X14.here hx rfl (hb hby at_178) rfl) ?_
  show own_Goes p.tables e below (T14.setTop (mkF m 180 #[.val (.long q0), .second, .val (.long q1), .second, .val (.int p2), .val (.int p3), .val (.int z8), .val (.int z21), .val (.long z112), .second, .unset] [(.int z21), (.int z8), (.int (6 : Int32)), (.long q0), (.int ((((((own_f4 q0 (0 : Int32) z8 z21) + (own_f4 q0 (1 : Int32) z8 z21)) + (own_f4 q0 (2 : Int32) z8 z21)) + (own_f4 q0 (3 : Int32) z8 z21)) + (own_f4 q0 (4 : Int32) z8 z21)) + (own_f4 q0 (5 : Int32) z8 z21)))])) _
  obtain ⟨_, _, ⟨T15, L15, k15, n15⟩, -, X15, ⟨Lc15, hQ15, l15, y15, z15⟩, st15⟩ := Jvm.LawKit.callS X14 hx (y := (⟨"com/example/kolektyv/kolektyv/records/BytesDigitsPinLaw", "term", "(JIII)I"⟩ : MethodName)) hown (mvT hZ (hw _ (List.mem_of_getElem? (i := 14) rfl))) (mvT hZ (hw _ (List.mem_of_getElem? (i := 15) rfl))) (mvT hZ (hw _ (List.mem_of_getElem? (i := 3) rfl))) (mvT hZ (hw _ (List.mem_of_getElem? (i := 16) rfl))) (by decide) (backOf (W := 1) (rm4 l Z a0 hw [] q0 (6 : Int32) z8 z21 T14.heap n0 Z14 (by subst hz21; subst hz8; exact own_count (own_first p2) p3)) hZ (hw _ (List.mem_of_getElem? (i := 16) rfl)) (hw _ (List.mem_of_getElem? (i := 3) rfl)) (by decide) (by decide)) (g := (mkF m 180 #[.val (.long q0), .second, .val (.long q1), .second, .val (.int p2), .val (.int p3), .val (.int z8), .val (.int z21), .val (.long z112), .second, .unset] [(.int z21), (.int z8), (.int (6 : Int32)), (.long q0), (.int ((((((own_f4 q0 (0 : Int32) z8 z21) + (own_f4 q0 (1 : Int32) z8 z21)) + (own_f4 q0 (2 : Int32) z8 z21)) + (own_f4 q0 (3 : Int32) z8 z21)) + (own_f4 q0 (4 : Int32) z8 z21)) + (own_f4 q0 (5 : Int32) z8 z21)))])) rfl (by rw [hml]; rfl) (argsL := [(.long q0), (.int (6 : Int32)), (.int z8), (.int z21)]) (rest := [(.int ((((((own_f4 q0 (0 : Int32) z8 z21) + (own_f4 q0 (1 : Int32) z8 z21)) + (own_f4 q0 (2 : Int32) z8 z21)) + (own_f4 q0 (3 : Int32) z8 z21)) + (own_f4 q0 (4 : Int32) z8 z21)) + (own_f4 q0 (5 : Int32) z8 z21)))]) (lenOf pd_0_1 rfl) rfl (by show 2 * 0 + _ ≤ _; exact Nat.le_of_eq rfl) (hb hby at_180) (fun _ _ => ⟨rfl, rfl, (by decide : ((((((0 + 1) + 1) + 1) + 1) + 1) + 1) + 1 ≤ _), (by decide : ((((((0 + 8) + 8) + 8) + 8) + 8) + 8) + 8 ≤ _)⟩)
  dsimp only [Pt.U, Pt.locs, Pt.cells, Pt.slots] at X15 l15 y15 z15 st15 hQ15
  subst y15 z15
  obtain ⟨rfl, Nq15, Kq15⟩ := hQ15
  have N15 : Fr n0 L15 := by rw [l15]; exact Fr.app N14 Nq15
  have K15 : Keep h0 T15.heap [] := K14.trans Kq15 all0
  have Z15 : n0 ≤ T15.heap.size := Nat.le_trans Z14 Kq15.1
  refine own_step (st15) ?_
  show own_Goes p.tables e below (T15.setTop (mkF m 183 #[.val (.long q0), .second, .val (.long q1), .second, .val (.int p2), .val (.int p3), .val (.int z8), .val (.int z21), .val (.long z112), .second, .unset] [(.int (own_f4 q0 (6 : Int32) z8 z21)), (.int ((((((own_f4 q0 (0 : Int32) z8 z21) + (own_f4 q0 (1 : Int32) z8 z21)) + (own_f4 q0 (2 : Int32) z8 z21)) + (own_f4 q0 (3 : Int32) z8 z21)) + (own_f4 q0 (4 : Int32) z8 z21)) + (own_f4 q0 (5 : Int32) z8 z21)))])) _
  refine own_step (fun _ => XS.iadd X15.here hx rfl (hb hby at_183) rfl) ?_
  show own_Goes p.tables e below (T15.setTop (mkF m 184 #[.val (.long q0), .second, .val (.long q1), .second, .val (.int p2), .val (.int p3), .val (.int z8), .val (.int z21), .val (.long z112), .second, .unset] [(.int (((((((own_f4 q0 (0 : Int32) z8 z21) + (own_f4 q0 (1 : Int32) z8 z21)) + (own_f4 q0 (2 : Int32) z8 z21)) + (own_f4 q0 (3 : Int32) z8 z21)) + (own_f4 q0 (4 : Int32) z8 z21)) + (own_f4 q0 (5 : Int32) z8 z21)) + (own_f4 q0 (6 : Int32) z8 z21)))])) _
  refine own_step (fun _ => XS.lloadN X15.here hx rfl (hb hby at_184) rfl) ?_
  show own_Goes p.tables e below (T15.setTop (mkF m 185 #[.val (.long q0), .second, .val (.long q1), .second, .val (.int p2), .val (.int p3), .val (.int z8), .val (.int z21), .val (.long z112), .second, .unset] [(.long q0), (.int (((((((own_f4 q0 (0 : Int32) z8 z21) + (own_f4 q0 (1 : Int32) z8 z21)) + (own_f4 q0 (2 : Int32) z8 z21)) + (own_f4 q0 (3 : Int32) z8 z21)) + (own_f4 q0 (4 : Int32) z8 z21)) + (own_f4 q0 (5 : Int32) z8 z21)) + (own_f4 q0 (6 : Int32) z8 z21)))])) _
  refine own_step (fun _ => XS.bipush X15.here hx rfl (hb hby at_185)) ?_
  show own_Goes p.tables e below (T15.setTop (mkF m 187 #[.val (.long q0), .second, .val (.long q1), .second, .val (.int p2), .val (.int p3), .val (.int z8), .val (.int z21), .val (.long z112), .second, .unset] [(.int (7 : Int32)), (.long q0), (.int (((((((own_f4 q0 (0 : Int32) z8 z21) + (own_f4 q0 (1 : Int32) z8 z21)) + (own_f4 q0 (2 : Int32) z8 z21)) + (own_f4 q0 (3 : Int32) z8 z21)) + (own_f4 q0 (4 : Int32) z8 z21)) + (own_f4 q0 (5 : Int32) z8 z21)) + (own_f4 q0 (6 : Int32) z8 z21)))])) _
  refine own_step (fun _ => XS.iload X15.here hx rfl (hb hby at_187) rfl) ?_
  show own_Goes p.tables e below (T15.setTop (mkF m 189 #[.val (.long q0), .second, .val (.long q1), .second, .val (.int p2), .val (.int p3), .val (.int z8), .val (.int z21), .val (.long z112), .second, .unset] [(.int z8), (.int (7 : Int32)), (.long q0), (.int (((((((own_f4 q0 (0 : Int32) z8 z21) + (own_f4 q0 (1 : Int32) z8 z21)) + (own_f4 q0 (2 : Int32) z8 z21)) + (own_f4 q0 (3 : Int32) z8 z21)) + (own_f4 q0 (4 : Int32) z8 z21)) + (own_f4 q0 (5 : Int32) z8 z21)) + (own_f4 q0 (6 : Int32) z8 z21)))])) _
  refine own_step (fun _ => XS.iload X15.here hx rfl (hb hby at_189) rfl) ?_
  show own_Goes p.tables e below (T15.setTop (mkF m 191 #[.val (.long q0), .second, .val (.long q1), .second, .val (.int p2), .val (.int p3), .val (.int z8), .val (.int z21), .val (.long z112), .second, .unset] [(.int z21), (.int z8), (.int (7 : Int32)), (.long q0), (.int (((((((own_f4 q0 (0 : Int32) z8 z21) + (own_f4 q0 (1 : Int32) z8 z21)) + (own_f4 q0 (2 : Int32) z8 z21)) + (own_f4 q0 (3 : Int32) z8 z21)) + (own_f4 q0 (4 : Int32) z8 z21)) + (own_f4 q0 (5 : Int32) z8 z21)) + (own_f4 q0 (6 : Int32) z8 z21)))])) _
  obtain ⟨_, _, ⟨T16, L16, k16, n16⟩, -, X16, ⟨Lc16, hQ16, l16, y16, z16⟩, st16⟩ := Jvm.LawKit.callS X15 hx (y := (⟨"com/example/kolektyv/kolektyv/records/BytesDigitsPinLaw", "term", "(JIII)I"⟩ : MethodName)) hown (mvT hZ (hw _ (List.mem_of_getElem? (i := 14) rfl))) (mvT hZ (hw _ (List.mem_of_getElem? (i := 15) rfl))) (mvT hZ (hw _ (List.mem_of_getElem? (i := 3) rfl))) (mvT hZ (hw _ (List.mem_of_getElem? (i := 16) rfl))) (by decide) (backOf (W := 1) (rm4 l Z a0 hw [] q0 (7 : Int32) z8 z21 T15.heap n0 Z15 (by subst hz21; subst hz8; exact own_count (own_first p2) p3)) hZ (hw _ (List.mem_of_getElem? (i := 16) rfl)) (hw _ (List.mem_of_getElem? (i := 3) rfl)) (by decide) (by decide)) (g := (mkF m 191 #[.val (.long q0), .second, .val (.long q1), .second, .val (.int p2), .val (.int p3), .val (.int z8), .val (.int z21), .val (.long z112), .second, .unset] [(.int z21), (.int z8), (.int (7 : Int32)), (.long q0), (.int (((((((own_f4 q0 (0 : Int32) z8 z21) + (own_f4 q0 (1 : Int32) z8 z21)) + (own_f4 q0 (2 : Int32) z8 z21)) + (own_f4 q0 (3 : Int32) z8 z21)) + (own_f4 q0 (4 : Int32) z8 z21)) + (own_f4 q0 (5 : Int32) z8 z21)) + (own_f4 q0 (6 : Int32) z8 z21)))])) rfl (by rw [hml]; rfl) (argsL := [(.long q0), (.int (7 : Int32)), (.int z8), (.int z21)]) (rest := [(.int (((((((own_f4 q0 (0 : Int32) z8 z21) + (own_f4 q0 (1 : Int32) z8 z21)) + (own_f4 q0 (2 : Int32) z8 z21)) + (own_f4 q0 (3 : Int32) z8 z21)) + (own_f4 q0 (4 : Int32) z8 z21)) + (own_f4 q0 (5 : Int32) z8 z21)) + (own_f4 q0 (6 : Int32) z8 z21)))]) (lenOf pd_0_1 rfl) rfl (by show 2 * 0 + _ ≤ _; exact Nat.le_of_eq rfl) (hb hby at_191) (fun _ _ => ⟨rfl, rfl, (by decide : (((((((0 + 1) + 1) + 1) + 1) + 1) + 1) + 1) + 1 ≤ _), (by decide : (((((((0 + 8) + 8) + 8) + 8) + 8) + 8) + 8) + 8 ≤ _)⟩)
  dsimp only [Pt.U, Pt.locs, Pt.cells, Pt.slots] at X16 l16 y16 z16 st16 hQ16
  subst y16 z16
  obtain ⟨rfl, Nq16, Kq16⟩ := hQ16
  have N16 : Fr n0 L16 := by rw [l16]; exact Fr.app N15 Nq16
  have K16 : Keep h0 T16.heap [] := K15.trans Kq16 all0
  have Z16 : n0 ≤ T16.heap.size := Nat.le_trans Z15 Kq16.1
  refine own_step (st16) ?_
  show own_Goes p.tables e below (T16.setTop (mkF m 194 #[.val (.long q0), .second, .val (.long q1), .second, .val (.int p2), .val (.int p3), .val (.int z8), .val (.int z21), .val (.long z112), .second, .unset] [(.int (own_f4 q0 (7 : Int32) z8 z21)), (.int (((((((own_f4 q0 (0 : Int32) z8 z21) + (own_f4 q0 (1 : Int32) z8 z21)) + (own_f4 q0 (2 : Int32) z8 z21)) + (own_f4 q0 (3 : Int32) z8 z21)) + (own_f4 q0 (4 : Int32) z8 z21)) + (own_f4 q0 (5 : Int32) z8 z21)) + (own_f4 q0 (6 : Int32) z8 z21)))])) _
  refine own_step (fun _ => XS.iadd X16.here hx rfl (hb hby at_194) rfl) ?_
  show own_Goes p.tables e below (T16.setTop (mkF m 195 #[.val (.long q0), .second, .val (.long q1), .second, .val (.int p2), .val (.int p3), .val (.int z8), .val (.int z21), .val (.long z112), .second, .unset] [(.int ((((((((own_f4 q0 (0 : Int32) z8 z21) + (own_f4 q0 (1 : Int32) z8 z21)) + (own_f4 q0 (2 : Int32) z8 z21)) + (own_f4 q0 (3 : Int32) z8 z21)) + (own_f4 q0 (4 : Int32) z8 z21)) + (own_f4 q0 (5 : Int32) z8 z21)) + (own_f4 q0 (6 : Int32) z8 z21)) + (own_f4 q0 (7 : Int32) z8 z21)))])) _
  obtain ⟨z195, hz195⟩ : ∃ z : Int32, z = ((((((((own_f4 q0 (0 : Int32) z8 z21) + (own_f4 q0 (1 : Int32) z8 z21)) + (own_f4 q0 (2 : Int32) z8 z21)) + (own_f4 q0 (3 : Int32) z8 z21)) + (own_f4 q0 (4 : Int32) z8 z21)) + (own_f4 q0 (5 : Int32) z8 z21)) + (own_f4 q0 (6 : Int32) z8 z21)) + (own_f4 q0 (7 : Int32) z8 z21)) := ⟨_, rfl⟩
  refine own_step (fun _ => XS.istore X16.here hx rfl (hb hby at_195) rfl (l' := #[.val (.long q0), .second, .val (.long q1), .second, .val (.int p2), .val (.int p3), .val (.int z8), .val (.int z21), .val (.long z112), .second, .val (.int z195)]) (by subst hz195; rfl)) ?_
  show own_Goes p.tables e below (T16.setTop (mkF m 197 #[.val (.long q0), .second, .val (.long q1), .second, .val (.int p2), .val (.int p3), .val (.int z8), .val (.int z21), .val (.long z112), .second, .val (.int z195)] [])) _
  refine own_step (fun _ => XS.lload X16.here hx rfl (hb hby at_197) rfl) ?_
  show own_Goes p.tables e below (T16.setTop (mkF m 199 #[.val (.long q0), .second, .val (.long q1), .second, .val (.int p2), .val (.int p3), .val (.int z8), .val (.int z21), .val (.long z112), .second, .val (.int z195)] [(.long z112)])) _
  refine own_step (fun _ => XS.iload X16.here hx rfl (hb hby at_199) rfl) ?_
  show own_Goes p.tables e below (T16.setTop (mkF m 201 #[.val (.long q0), .second, .val (.long q1), .second, .val (.int p2), .val (.int p3), .val (.int z8), .val (.int z21), .val (.long z112), .second, .val (.int z195)] [(.int z8), (.long z112)])) _
  refine own_step (fun _ => XS.iload X16.here hx rfl (hb hby at_201) rfl) ?_
  show own_Goes p.tables e below (T16.setTop (mkF m 203 #[.val (.long q0), .second, .val (.long q1), .second, .val (.int p2), .val (.int p3), .val (.int z8), .val (.int z21), .val (.long z112), .second, .val (.int z195)] [(.int z21), (.int z8), (.long z112)])) _
  obtain ⟨_, _, ⟨T17, L17, k17, n17⟩, -, X17, ⟨Lc17, hQ17, l17, y17, z17⟩, st17⟩ := Jvm.LawKit.callS X16 hx (y := (⟨"com/example/kolektyv/kolektyv/records/Bytes", "digits", "(JII)I"⟩ : MethodName)) hown (mvT hZ (hw _ (List.mem_of_getElem? (i := 21) rfl))) (mvT hZ (hw _ (List.mem_of_getElem? (i := 22) rfl))) (mvT hZ (hw _ (List.mem_of_getElem? (i := 23) rfl))) (mvT hZ (hw _ (List.mem_of_getElem? (i := 24) rfl))) (by decide) (backOf (W := 0) (rm5 l Z a0 hw [] z112 z8 z21 T16.heap n0 Z16 (by subst hz21; subst hz8; exact own_count (own_first p2) p3)) hZ (hw _ (List.mem_of_getElem? (i := 24) rfl)) (hw _ (List.mem_of_getElem? (i := 23) rfl)) (by decide) (by decide)) (g := (mkF m 203 #[.val (.long q0), .second, .val (.long q1), .second, .val (.int p2), .val (.int p3), .val (.int z8), .val (.int z21), .val (.long z112), .second, .val (.int z195)] [(.int z21), (.int z8), (.long z112)])) rfl (by rw [hml]; rfl) (argsL := [(.long z112), (.int z8), (.int z21)]) (rest := []) (lenOf pd_0_2 rfl) rfl (by show 2 * 0 + _ ≤ _; exact Nat.le_of_eq rfl) (hb hby at_203) (fun _ _ => ⟨rfl, rfl, (by decide : ((((((((0 + 1) + 1) + 1) + 1) + 1) + 1) + 1) + 1) + 0 ≤ _), (by decide : ((((((((0 + 8) + 8) + 8) + 8) + 8) + 8) + 8) + 8) + 0 ≤ _)⟩)
  dsimp only [Pt.U, Pt.locs, Pt.cells, Pt.slots] at X17 l17 y17 z17 st17 hQ17
  subst l17 y17 z17
  obtain ⟨rfl, rfl, e17⟩ := hQ17
  have X17 : Stand p l e room_1 s m #[(.long q0), (.long q1), (.int p2), (.int p3)] below meth c T17 L16 ((((((((0 + 1) + 1) + 1) + 1) + 1) + 1) + 1) + 1) ((((((((0 + 8) + 8) + 8) + 8) + 8) + 8) + 8) + 8) := own_flat X17
  refine own_step (st17) ?_
  show own_Goes p.tables e below (T17.setTop (mkF m 206 #[.val (.long q0), .second, .val (.long q1), .second, .val (.int p2), .val (.int p3), .val (.int z8), .val (.int z21), .val (.long z112), .second, .val (.int z195)] [(.int (own_f5 z112 z8 z21))])) _
  refine own_step (fun _ => XS.iload X17.here hx rfl (hb hby at_206) rfl) ?_
  show own_Goes p.tables e below (T17.setTop (mkF m 208 #[.val (.long q0), .second, .val (.long q1), .second, .val (.int p2), .val (.int p3), .val (.int z8), .val (.int z21), .val (.long z112), .second, .val (.int z195)] [(.int z195), (.int (own_f5 z112 z8 z21))])) _
  by_cases hc208 : (own_f5 z112 z8 z21) = z195
  · refine own_step (fun _ => XS.icmpNo X17.here hx rfl (hb hby at_208) rfl (Jvm.Free.XT.ii_ne_f hc208)) ?_
    show own_Goes p.tables e below (T17.setTop (mkF m 211 #[.val (.long q0), .second, .val (.long q1), .second, .val (.int p2), .val (.int p3), .val (.int z8), .val (.int z21), .val (.long z112), .second, .val (.int z195)] [])) _
    refine own_step (fun _ => XS.iconst X17.here hx rfl (hb hby at_211)) ?_
    show own_Goes p.tables e below (T17.setTop (mkF m 212 #[.val (.long q0), .second, .val (.long q1), .second, .val (.int p2), .val (.int p3), .val (.int z8), .val (.int z21), .val (.long z112), .second, .val (.int z195)] [(.int (1 : Int32))])) _
    refine own_step (fun _ => XS.goto X17.here hx rfl (pc0 := 212) (pc' := 216) rfl (hb hby at_212) (by decide) (by decide)) ?_
    show own_Goes p.tables e below (T17.setTop (mkF m 216 #[.val (.long q0), .second, .val (.long q1), .second, .val (.int p2), .val (.int p3), .val (.int z8), .val (.int z21), .val (.long z112), .second, .val (.int z195)] [(.int (1 : Int32))])) _
    have hv : (own_f0 q0 q1 p2 p3) = (1 : Int32) := by subst hz195; subst hz112; subst hz21; subst hz8; exact (if_pos hc208)
    rw [hv]
    exact own_retN X17 hx (t := .boolean) Bd.returns (by simp) (hb hby at_216) (BodyLoose.notSynchronized Bd) (w := (1 : Int32)) rfl ⟨rfl, N16⟩ (by decide) (by decide)
  · refine own_step (fun _ => XS.icmpYes X17.here hx rfl (pc0 := 208) (pc' := 215) rfl (hb hby at_208) rfl (Jvm.Free.XT.ii_ne_t hc208) (by decide) (by decide)) ?_
    show own_Goes p.tables e below (T17.setTop (mkF m 215 #[.val (.long q0), .second, .val (.long q1), .second, .val (.int p2), .val (.int p3), .val (.int z8), .val (.int z21), .val (.long z112), .second, .val (.int z195)] [])) _
    refine own_step (fun _ => XS.iconst X17.here hx rfl (hb hby at_215)) ?_
    show own_Goes p.tables e below (T17.setTop (mkF m 216 #[.val (.long q0), .second, .val (.long q1), .second, .val (.int p2), .val (.int p3), .val (.int z8), .val (.int z21), .val (.long z112), .second, .val (.int z195)] [(.int (0 : Int32))])) _
    have hv : (own_f0 q0 q1 p2 p3) = (0 : Int32) := by subst hz195; subst hz112; subst hz21; subst hz8; exact (if_neg hc208)
    rw [hv]
    exact own_retN X17 hx (t := .boolean) Bd.returns (by simp) (hb hby at_216) (BodyLoose.notSynchronized Bd) (w := (0 : Int32)) rfl ⟨rfl, N16⟩ (by decide) (by decide)
/-- z >>> s (a long, unsigned) -/
def own_sh (x : Int64) (s : Int32) : Int64 := (x.toUInt64 >>> (s &&& 0x3f).toInt64.toUInt64).toInt64
theorem own_sh_bv (x : Int64) (s : Int32) (n : Nat) (h : ((s &&& 0x3f).toInt64.toUInt64).toBitVec = BitVec.ofNat 64 n) (hn : n < 64) : (own_sh x s).toBitVec = x.toBitVec >>> n := by
  unfold own_sh
  rw [UInt64.toBitVec_toInt64, UInt64.toBitVec_shiftRight, h]
  apply BitVec.eq_of_toNat_eq
  simp only [BitVec.ushiftRight_eq', BitVec.toNat_ushiftRight, BitVec.toNat_umod, BitVec.toNat_ofNat]
  congr 1
  have h64 : (64 : BitVec 64).toNat = 64 := rfl
  rw [h64]
  simp only [Nat.reducePow]
  omega
/-- a byte of a long -/
theorem own_byteN (w : Int64) (s : Int32) (n : Nat) (h : ((s &&& 0x3f).toInt64.toUInt64).toBitVec = BitVec.ofNat 64 n) (hn : n < 64) : (own_sh w s &&& (255 : Int64)).toBitVec.toNat = w.toBitVec.toNat / 2 ^ n % 256 := by
  rw [Int64.toBitVec_and, own_sh_bv w s n h hn, BitVec.toNat_and, BitVec.toNat_ushiftRight, Nat.shiftRight_eq_div_pow]
  exact Nat.and_two_pow_sub_one_eq_mod _ 8
theorem own_byteJ (w : Int64) (s : Int32) (n : Nat) (h : ((s &&& 0x3f).toInt64.toUInt64).toBitVec = BitVec.ofNat 64 n) (hn : n < 64) : (own_sh w s &&& (255 : Int64)).toInt = ((w.toBitVec.toNat / 2 ^ n % 256 : Nat) : Int) := by
  have e := own_byteN w s n h hn
  have hlt : w.toBitVec.toNat / 2 ^ n % 256 < 256 := Nat.mod_lt _ (by decide)
  rw [← e] at hlt ⊢
  exact BitVec.toInt_eq_toNat_of_lt (by omega)
theorem own_byteI (w : Int64) (s : Int32) (n : Nat) (h : ((s &&& 0x3f).toInt64.toUInt64).toBitVec = BitVec.ofNat 64 n) (hn : n < 64) : (own_sh w s &&& (255 : Int64)).toInt32.toInt = ((w.toBitVec.toNat / 2 ^ n % 256 : Nat) : Int) := by
  have e := own_byteJ w s n h hn
  have hlt : w.toBitVec.toNat / 2 ^ n % 256 < 256 := Nat.mod_lt _ (by decide)
  rw [Jvm.Kit.i32_of_i64 (by omega) (by omega), e]
theorem own_natOf {x : Int64} (h : 0 ≤ x.toInt) : (x.toBitVec.toNat : Int) = x.toInt := by
  have e : x.toInt = if 2 * x.toBitVec.toNat < 2 ^ 64 then (x.toBitVec.toNat : Int) else (x.toBitVec.toNat : Int) - ((2 ^ 64 : Nat) : Int) := BitVec.toInt_eq_toNat_cond x.toBitVec
  have hl := x.toBitVec.isLt
  split at e <;> omega
theorem own_m255 (x : Int64) : 0 ≤ (x &&& (255 : Int64)).toInt ∧ (x &&& (255 : Int64)).toInt < 256 := by
  rw [Jvm.Kit.i64_mask x 255 (k := 8) (by decide) (by decide)]
  omega
theorem own_f3_b (w : Int64) (i : Int32) : 0 ≤ (own_f3 w i).toInt ∧ (own_f3 w i).toInt ≤ 9 := by
  have h := own_m255 (own_sh w ((8 : Int32) * i))
  have e : (own_f3 w i).toInt = (own_sh w ((8 : Int32) * i) &&& (255 : Int64)).toInt % (10 : Int64).toInt := Jvm.Kit.i64_rem_nonneg h.1
  rw [e, show (10 : Int64).toInt = 10 from rfl]
  omega
/-- the byte that stands at the place i of the word -/
def own_Bv (w junk : Int64) (i f c : Int32) : Int64 := if own_f2 i f c = 0 then own_sh junk ((8 : Int32) * i) &&& (255 : Int64) else (48 : Int64) + own_f3 w i
theorem own_f1_eq (w junk : Int64) (i f c : Int32) : own_f1 w junk i f c = (own_Bv w junk i f c) <<< (((8 : Int32) * i) &&& 0x3f).toInt64 := by
  unfold own_f1 own_Bv own_f1_40 own_sh
  by_cases h : own_f2 i f c = 0
  · simp only [h, ↓reduceIte]
  · simp only [h, ↓reduceIte]
theorem own_48 (w : Int64) (i : Int32) : ((48 : Int64) + own_f3 w i).toInt = 48 + (own_f3 w i).toInt := by
  have h := own_f3_b w i
  have l : (48 : Int64).toInt = 48 := rfl
  rw [Jvm.Kit.i64_add (by omega) (by omega), l]
theorem own_Bv_b (w junk : Int64) (i f c : Int32) : (own_Bv w junk i f c).toBitVec.toNat < 256 := by
  have h : 0 ≤ (own_Bv w junk i f c).toInt ∧ (own_Bv w junk i f c).toInt < 256 := by
    unfold own_Bv
    split
    · exact own_m255 _
    · have h1 := own_f3_b w i
      rw [own_48]
      omega
  have e := own_natOf h.1
  omega
theorem own_orN (X B : Int64) (s : Int32) (k : Nat) (h : (s &&& 0x3f).toInt64.toBitVec.smod 64 = BitVec.ofNat 64 k) (hk : k + 8 ≤ 64) (hX : X.toBitVec.toNat < 2 ^ k) (hB : B.toBitVec.toNat < 256) : (X ||| B <<< (s &&& 0x3f).toInt64).toBitVec.toNat = X.toBitVec.toNat + B.toBitVec.toNat * 2 ^ k := by
  have hkk : k % 2 ^ 64 = k := Nat.mod_eq_of_lt (by omega)
  have hlt : B.toBitVec.toNat * 2 ^ k < 2 ^ 64 := by
    have h1 : B.toBitVec.toNat * 2 ^ k < 2 ^ 8 * 2 ^ k := Nat.mul_lt_mul_of_pos_right hB (Nat.pow_pos (by decide))
    rw [← Nat.pow_add] at h1
    exact Nat.lt_of_lt_of_le h1 (Nat.pow_le_pow_right (by decide) (by omega))
  rw [Int64.toBitVec_or, Int64.toBitVec_shiftLeft, h, BitVec.toNat_or, BitVec.shiftLeft_eq', BitVec.toNat_shiftLeft, BitVec.toNat_ofNat, Nat.shiftLeft_eq, hkk, Nat.mod_eq_of_lt hlt, Nat.or_comm, Nat.mul_comm, ← Nat.two_pow_add_eq_or_of_lt hX, Nat.add_comm]
theorem own_first0 (B : Int64) : (B <<< (((8 : Int32) * 0) &&& 0x3f).toInt64) = B := by
  apply Int64.toBitVec_inj.mp
  rw [Int64.toBitVec_shiftLeft, show ((((8 : Int32) * 0) &&& 0x3f).toInt64.toBitVec.smod 64) = 0#64 from by decide]
  simp
def own_W (w junk : Int64) (f c : Int32) : Int64 := ((((((((own_f1 w junk (0 : Int32) f c) ||| (own_f1 w junk (1 : Int32) f c)) ||| (own_f1 w junk (2 : Int32) f c)) ||| (own_f1 w junk (3 : Int32) f c)) ||| (own_f1 w junk (4 : Int32) f c)) ||| (own_f1 w junk (5 : Int32) f c)) ||| (own_f1 w junk (6 : Int32) f c)) ||| (own_f1 w junk (7 : Int32) f c))
def own_T (w : Int64) (f c : Int32) : Int32 := ((((((((own_f4 w (0 : Int32) f c) + (own_f4 w (1 : Int32) f c)) + (own_f4 w (2 : Int32) f c)) + (own_f4 w (3 : Int32) f c)) + (own_f4 w (4 : Int32) f c)) + (own_f4 w (5 : Int32) f c)) + (own_f4 w (6 : Int32) f c)) + (own_f4 w (7 : Int32) f c))
theorem own_or8 (B0 B1 B2 B3 B4 B5 B6 B7 : Int64) (h0 : B0.toBitVec.toNat < 256) (h1 : B1.toBitVec.toNat < 256) (h2 : B2.toBitVec.toNat < 256) (h3 : B3.toBitVec.toNat < 256) (h4 : B4.toBitVec.toNat < 256) (h5 : B5.toBitVec.toNat < 256) (h6 : B6.toBitVec.toNat < 256) (h7 : B7.toBitVec.toNat < 256) :
    (((((((B0 ||| B1 <<< (((8 : Int32) * 1) &&& 0x3f).toInt64) ||| B2 <<< (((8 : Int32) * 2) &&& 0x3f).toInt64) ||| B3 <<< (((8 : Int32) * 3) &&& 0x3f).toInt64) ||| B4 <<< (((8 : Int32) * 4) &&& 0x3f).toInt64) ||| B5 <<< (((8 : Int32) * 5) &&& 0x3f).toInt64) ||| B6 <<< (((8 : Int32) * 6) &&& 0x3f).toInt64) ||| B7 <<< (((8 : Int32) * 7) &&& 0x3f).toInt64).toBitVec.toNat = B0.toBitVec.toNat + 256 * (B1.toBitVec.toNat + 256 * (B2.toBitVec.toNat + 256 * (B3.toBitVec.toNat + 256 * (B4.toBitVec.toNat + 256 * (B5.toBitVec.toNat + 256 * (B6.toBitVec.toNat + 256 * B7.toBitVec.toNat)))))) := by
  have e1 := own_orN B0 B1 ((8 : Int32) * 1) 8 (by decide) (by decide) h0 h1
  generalize (B0 ||| B1 <<< (((8 : Int32) * 1) &&& 0x3f).toInt64) = X1 at *
  have e2 := own_orN X1 B2 ((8 : Int32) * 2) 16 (by decide) (by decide) (by omega) h2
  generalize (X1 ||| B2 <<< (((8 : Int32) * 2) &&& 0x3f).toInt64) = X2 at *
  have e3 := own_orN X2 B3 ((8 : Int32) * 3) 24 (by decide) (by decide) (by omega) h3
  generalize (X2 ||| B3 <<< (((8 : Int32) * 3) &&& 0x3f).toInt64) = X3 at *
  have e4 := own_orN X3 B4 ((8 : Int32) * 4) 32 (by decide) (by decide) (by omega) h4
  generalize (X3 ||| B4 <<< (((8 : Int32) * 4) &&& 0x3f).toInt64) = X4 at *
  have e5 := own_orN X4 B5 ((8 : Int32) * 5) 40 (by decide) (by decide) (by omega) h5
  generalize (X4 ||| B5 <<< (((8 : Int32) * 5) &&& 0x3f).toInt64) = X5 at *
  have e6 := own_orN X5 B6 ((8 : Int32) * 6) 48 (by decide) (by decide) (by omega) h6
  generalize (X5 ||| B6 <<< (((8 : Int32) * 6) &&& 0x3f).toInt64) = X6 at *
  have e7 := own_orN X6 B7 ((8 : Int32) * 7) 56 (by decide) (by decide) (by omega) h7
  rw [e7, e6, e5, e4, e3, e2, e1]
  omega
theorem own_dd (W : Nat) : W / 2 ^ 0 = W ∧ W / 2 ^ 8 = W / 256 ∧ W / 2 ^ 16 = W / 256 / 256 ∧ W / 2 ^ 24 = W / 256 / 256 / 256 ∧ W / 2 ^ 32 = W / 256 / 256 / 256 / 256 ∧ W / 2 ^ 40 = W / 256 / 256 / 256 / 256 / 256 ∧ W / 2 ^ 48 = W / 256 / 256 / 256 / 256 / 256 / 256 ∧ W / 2 ^ 56 = W / 256 / 256 / 256 / 256 / 256 / 256 / 256 := by
  refine ⟨?_, ?_, ?_, ?_, ?_, ?_, ?_, ?_⟩ <;> simp only [Nat.div_div_eq_div_mul, Nat.reducePow, Nat.reduceMul, Nat.div_one]
theorem own_pd (b V : Nat) (h : b < 256) : (b + 256 * V) / 256 = V := by omega
theorem own_pm (b V : Nat) (h : b < 256) : (b + 256 * V) % 256 = b := by omega
theorem own_parts (W b0 b1 b2 b3 b4 b5 b6 b7 : Nat) (h0 : b0 < 256) (h1 : b1 < 256) (h2 : b2 < 256) (h3 : b3 < 256) (h4 : b4 < 256) (h5 : b5 < 256) (h6 : b6 < 256) (h7 : b7 < 256) (e : W = b0 + 256 * (b1 + 256 * (b2 + 256 * (b3 + 256 * (b4 + 256 * (b5 + 256 * (b6 + 256 * b7))))))) :
    W / 2 ^ 0 % 256 = b0 ∧ W / 2 ^ 8 % 256 = b1 ∧ W / 2 ^ 16 % 256 = b2 ∧ W / 2 ^ 24 % 256 = b3 ∧ W / 2 ^ 32 % 256 = b4 ∧ W / 2 ^ 40 % 256 = b5 ∧ W / 2 ^ 48 % 256 = b6 ∧ W / 2 ^ 56 % 256 = b7 := by
  obtain ⟨d0, d1, d2, d3, d4, d5, d6, d7⟩ := own_dd W
  rw [d0, d1, d2, d3, d4, d5, d6, d7, e]
  simp only [own_pd _ _ h0, own_pd _ _ h1, own_pd _ _ h2, own_pd _ _ h3, own_pd _ _ h4, own_pd _ _ h5, own_pd _ _ h6, own_pm _ _ h0, own_pm _ _ h1, own_pm _ _ h2, own_pm _ _ h3, own_pm _ _ h4, own_pm _ _ h5, own_pm _ _ h6, Nat.mod_eq_of_lt h7, and_self]
theorem own_Wparts (w junk : Int64) (f c : Int32) : (own_W w junk f c).toBitVec.toNat / 2 ^ 0 % 256 = (own_Bv w junk 0 f c).toBitVec.toNat ∧ (own_W w junk f c).toBitVec.toNat / 2 ^ 8 % 256 = (own_Bv w junk 1 f c).toBitVec.toNat ∧ (own_W w junk f c).toBitVec.toNat / 2 ^ 16 % 256 = (own_Bv w junk 2 f c).toBitVec.toNat ∧ (own_W w junk f c).toBitVec.toNat / 2 ^ 24 % 256 = (own_Bv w junk 3 f c).toBitVec.toNat ∧ (own_W w junk f c).toBitVec.toNat / 2 ^ 32 % 256 = (own_Bv w junk 4 f c).toBitVec.toNat ∧ (own_W w junk f c).toBitVec.toNat / 2 ^ 40 % 256 = (own_Bv w junk 5 f c).toBitVec.toNat ∧ (own_W w junk f c).toBitVec.toNat / 2 ^ 48 % 256 = (own_Bv w junk 6 f c).toBitVec.toNat ∧ (own_W w junk f c).toBitVec.toNat / 2 ^ 56 % 256 = (own_Bv w junk 7 f c).toBitVec.toNat := by
  have b := fun i => own_Bv_b w junk i f c
  refine own_parts _ _ _ _ _ _ _ _ _ (b 0) (b 1) (b 2) (b 3) (b 4) (b 5) (b 6) (b 7) ?_
  unfold own_W
  simp only [own_f1_eq]
  rw [own_first0]
  exact own_or8 _ _ _ _ _ _ _ _ (b 0) (b 1) (b 2) (b 3) (b 4) (b 5) (b 6) (b 7)
def own_by (W : Int64) (i : Int32) : Int32 := (own_sh W ((8 : Int32) * i) &&& (255 : Int64)).toInt32
theorem own_in (w junk W : Int64) (i f c : Int32) (n : Nat) (h : ((((8 : Int32) * i) &&& 0x3f).toInt64.toUInt64).toBitVec = BitVec.ofNat 64 n) (hn : n < 64) (hi : ¬ own_f2 i f c = 0) (hp : W.toBitVec.toNat / 2 ^ n % 256 = (own_Bv w junk i f c).toBitVec.toNat) : own_by W i = 48 + (own_f3 w i).toInt32 := by
  have e := own_byteI W ((8 : Int32) * i) n h hn
  have b := own_f3_b w i
  rw [hp] at e
  have hb : own_Bv w junk i f c = (48 : Int64) + own_f3 w i := if_neg hi
  have e8 := own_48 w i
  rw [hb] at e
  have en := own_natOf (x := (48 : Int64) + own_f3 w i) (by omega)
  have ed : (own_f3 w i).toInt32.toInt = (own_f3 w i).toInt := Jvm.Kit.i32_of_i64 (by omega) (by omega)
  have l : (48 : Int32).toInt = 48 := rfl
  apply Int32.toInt_inj.mp
  have ea : ((48 : Int32) + (own_f3 w i).toInt32).toInt = 48 + (own_f3 w i).toInt := by rw [Jvm.Kit.i32_add (by omega) (by omega), l, ed]
  rw [ea]
  show (own_by W i).toInt = _
  unfold own_by
  rw [e]
  omega
theorem own_case_0_0 (w junk : Int64) : own_f5 (own_W w junk 0 0) 0 0 = own_T w 0 0 := by
  rfl
theorem own_case_0_1 (w junk : Int64) : own_f5 (own_W w junk 0 1) 0 1 = own_T w 0 1 := by
  have h0 := own_in w junk (own_W w junk 0 1) 0 0 1 0 (by decide) (by decide) (by decide) (own_Wparts w junk 0 1).1
  have l : own_f5 (own_W w junk 0 1) 0 1 = (10 * (0 : Int32) + own_by (own_W w junk 0 1) 0 - 48) := rfl
  rw [l, h0]
  have r : own_T w 0 1 = ((((((((own_f3 w 0).toInt32 * 1 + (0 : Int32)) + (0 : Int32)) + (0 : Int32)) + (0 : Int32)) + (0 : Int32)) + (0 : Int32)) + (0 : Int32)) := rfl
  rw [r]
  clear l r h0
  generalize (own_f3 w 0).toInt32 = d0
  grind
theorem own_case_0_2 (w junk : Int64) : own_f5 (own_W w junk 0 2) 0 2 = own_T w 0 2 := by
  have h0 := own_in w junk (own_W w junk 0 2) 0 0 2 0 (by decide) (by decide) (by decide) (own_Wparts w junk 0 2).1
  have h1 := own_in w junk (own_W w junk 0 2) 1 0 2 8 (by decide) (by decide) (by decide) (own_Wparts w junk 0 2).2.1
  have l : own_f5 (own_W w junk 0 2) 0 2 = (10 * (10 * (0 : Int32) + own_by (own_W w junk 0 2) 0 - 48) + own_by (own_W w junk 0 2) 1 - 48) := rfl
  rw [l, h0, h1]
  have r : own_T w 0 2 = ((((((((own_f3 w 0).toInt32 * 10 + (own_f3 w 1).toInt32 * 1) + (0 : Int32)) + (0 : Int32)) + (0 : Int32)) + (0 : Int32)) + (0 : Int32)) + (0 : Int32)) := rfl
  rw [r]
  clear l r h0 h1
  generalize (own_f3 w 0).toInt32 = d0
  generalize (own_f3 w 1).toInt32 = d1
  grind
theorem own_case_0_3 (w junk : Int64) : own_f5 (own_W w junk 0 3) 0 3 = own_T w 0 3 := by
  have h0 := own_in w junk (own_W w junk 0 3) 0 0 3 0 (by decide) (by decide) (by decide) (own_Wparts w junk 0 3).1
  have h1 := own_in w junk (own_W w junk 0 3) 1 0 3 8 (by decide) (by decide) (by decide) (own_Wparts w junk 0 3).2.1
  have h2 := own_in w junk (own_W w junk 0 3) 2 0 3 16 (by decide) (by decide) (by decide) (own_Wparts w junk 0 3).2.2.1
  have l : own_f5 (own_W w junk 0 3) 0 3 = (10 * (10 * (10 * (0 : Int32) + own_by (own_W w junk 0 3) 0 - 48) + own_by (own_W w junk 0 3) 1 - 48) + own_by (own_W w junk 0 3) 2 - 48) := rfl
  rw [l, h0, h1, h2]
  have r : own_T w 0 3 = ((((((((own_f3 w 0).toInt32 * 100 + (own_f3 w 1).toInt32 * 10) + (own_f3 w 2).toInt32 * 1) + (0 : Int32)) + (0 : Int32)) + (0 : Int32)) + (0 : Int32)) + (0 : Int32)) := rfl
  rw [r]
  clear l r h0 h1 h2
  generalize (own_f3 w 0).toInt32 = d0
  generalize (own_f3 w 1).toInt32 = d1
  generalize (own_f3 w 2).toInt32 = d2
  grind
theorem own_case_0_4 (w junk : Int64) : own_f5 (own_W w junk 0 4) 0 4 = own_T w 0 4 := by
  have h0 := own_in w junk (own_W w junk 0 4) 0 0 4 0 (by decide) (by decide) (by decide) (own_Wparts w junk 0 4).1
  have h1 := own_in w junk (own_W w junk 0 4) 1 0 4 8 (by decide) (by decide) (by decide) (own_Wparts w junk 0 4).2.1
  have h2 := own_in w junk (own_W w junk 0 4) 2 0 4 16 (by decide) (by decide) (by decide) (own_Wparts w junk 0 4).2.2.1
  have h3 := own_in w junk (own_W w junk 0 4) 3 0 4 24 (by decide) (by decide) (by decide) (own_Wparts w junk 0 4).2.2.2.1
  have l : own_f5 (own_W w junk 0 4) 0 4 = (10 * (10 * (10 * (10 * (0 : Int32) + own_by (own_W w junk 0 4) 0 - 48) + own_by (own_W w junk 0 4) 1 - 48) + own_by (own_W w junk 0 4) 2 - 48) + own_by (own_W w junk 0 4) 3 - 48) := rfl
  rw [l, h0, h1, h2, h3]
  have r : own_T w 0 4 = ((((((((own_f3 w 0).toInt32 * 1000 + (own_f3 w 1).toInt32 * 100) + (own_f3 w 2).toInt32 * 10) + (own_f3 w 3).toInt32 * 1) + (0 : Int32)) + (0 : Int32)) + (0 : Int32)) + (0 : Int32)) := rfl
  rw [r]
  clear l r h0 h1 h2 h3
  generalize (own_f3 w 0).toInt32 = d0
  generalize (own_f3 w 1).toInt32 = d1
  generalize (own_f3 w 2).toInt32 = d2
  generalize (own_f3 w 3).toInt32 = d3
  grind
theorem own_case_0_5 (w junk : Int64) : own_f5 (own_W w junk 0 5) 0 5 = own_T w 0 5 := by
  have h0 := own_in w junk (own_W w junk 0 5) 0 0 5 0 (by decide) (by decide) (by decide) (own_Wparts w junk 0 5).1
  have h1 := own_in w junk (own_W w junk 0 5) 1 0 5 8 (by decide) (by decide) (by decide) (own_Wparts w junk 0 5).2.1
  have h2 := own_in w junk (own_W w junk 0 5) 2 0 5 16 (by decide) (by decide) (by decide) (own_Wparts w junk 0 5).2.2.1
  have h3 := own_in w junk (own_W w junk 0 5) 3 0 5 24 (by decide) (by decide) (by decide) (own_Wparts w junk 0 5).2.2.2.1
  have h4 := own_in w junk (own_W w junk 0 5) 4 0 5 32 (by decide) (by decide) (by decide) (own_Wparts w junk 0 5).2.2.2.2.1
  have l : own_f5 (own_W w junk 0 5) 0 5 = (10 * (10 * (10 * (10 * (10 * (0 : Int32) + own_by (own_W w junk 0 5) 0 - 48) + own_by (own_W w junk 0 5) 1 - 48) + own_by (own_W w junk 0 5) 2 - 48) + own_by (own_W w junk 0 5) 3 - 48) + own_by (own_W w junk 0 5) 4 - 48) := rfl
  rw [l, h0, h1, h2, h3, h4]
  have r : own_T w 0 5 = ((((((((own_f3 w 0).toInt32 * 10000 + (own_f3 w 1).toInt32 * 1000) + (own_f3 w 2).toInt32 * 100) + (own_f3 w 3).toInt32 * 10) + (own_f3 w 4).toInt32 * 1) + (0 : Int32)) + (0 : Int32)) + (0 : Int32)) := rfl
  rw [r]
  clear l r h0 h1 h2 h3 h4
  generalize (own_f3 w 0).toInt32 = d0
  generalize (own_f3 w 1).toInt32 = d1
  generalize (own_f3 w 2).toInt32 = d2
  generalize (own_f3 w 3).toInt32 = d3
  generalize (own_f3 w 4).toInt32 = d4
  grind
theorem own_case_0_6 (w junk : Int64) : own_f5 (own_W w junk 0 6) 0 6 = own_T w 0 6 := by
  have h0 := own_in w junk (own_W w junk 0 6) 0 0 6 0 (by decide) (by decide) (by decide) (own_Wparts w junk 0 6).1
  have h1 := own_in w junk (own_W w junk 0 6) 1 0 6 8 (by decide) (by decide) (by decide) (own_Wparts w junk 0 6).2.1
  have h2 := own_in w junk (own_W w junk 0 6) 2 0 6 16 (by decide) (by decide) (by decide) (own_Wparts w junk 0 6).2.2.1
  have h3 := own_in w junk (own_W w junk 0 6) 3 0 6 24 (by decide) (by decide) (by decide) (own_Wparts w junk 0 6).2.2.2.1
  have h4 := own_in w junk (own_W w junk 0 6) 4 0 6 32 (by decide) (by decide) (by decide) (own_Wparts w junk 0 6).2.2.2.2.1
  have h5 := own_in w junk (own_W w junk 0 6) 5 0 6 40 (by decide) (by decide) (by decide) (own_Wparts w junk 0 6).2.2.2.2.2.1
  have l : own_f5 (own_W w junk 0 6) 0 6 = (10 * (10 * (10 * (10 * (10 * (10 * (0 : Int32) + own_by (own_W w junk 0 6) 0 - 48) + own_by (own_W w junk 0 6) 1 - 48) + own_by (own_W w junk 0 6) 2 - 48) + own_by (own_W w junk 0 6) 3 - 48) + own_by (own_W w junk 0 6) 4 - 48) + own_by (own_W w junk 0 6) 5 - 48) := rfl
  rw [l, h0, h1, h2, h3, h4, h5]
  have r : own_T w 0 6 = ((((((((own_f3 w 0).toInt32 * 100000 + (own_f3 w 1).toInt32 * 10000) + (own_f3 w 2).toInt32 * 1000) + (own_f3 w 3).toInt32 * 100) + (own_f3 w 4).toInt32 * 10) + (own_f3 w 5).toInt32 * 1) + (0 : Int32)) + (0 : Int32)) := rfl
  rw [r]
  clear l r h0 h1 h2 h3 h4 h5
  generalize (own_f3 w 0).toInt32 = d0
  generalize (own_f3 w 1).toInt32 = d1
  generalize (own_f3 w 2).toInt32 = d2
  generalize (own_f3 w 3).toInt32 = d3
  generalize (own_f3 w 4).toInt32 = d4
  generalize (own_f3 w 5).toInt32 = d5
  grind
theorem own_case_0_7 (w junk : Int64) : own_f5 (own_W w junk 0 7) 0 7 = own_T w 0 7 := by
  have h0 := own_in w junk (own_W w junk 0 7) 0 0 7 0 (by decide) (by decide) (by decide) (own_Wparts w junk 0 7).1
  have h1 := own_in w junk (own_W w junk 0 7) 1 0 7 8 (by decide) (by decide) (by decide) (own_Wparts w junk 0 7).2.1
  have h2 := own_in w junk (own_W w junk 0 7) 2 0 7 16 (by decide) (by decide) (by decide) (own_Wparts w junk 0 7).2.2.1
  have h3 := own_in w junk (own_W w junk 0 7) 3 0 7 24 (by decide) (by decide) (by decide) (own_Wparts w junk 0 7).2.2.2.1
  have h4 := own_in w junk (own_W w junk 0 7) 4 0 7 32 (by decide) (by decide) (by decide) (own_Wparts w junk 0 7).2.2.2.2.1
  have h5 := own_in w junk (own_W w junk 0 7) 5 0 7 40 (by decide) (by decide) (by decide) (own_Wparts w junk 0 7).2.2.2.2.2.1
  have h6 := own_in w junk (own_W w junk 0 7) 6 0 7 48 (by decide) (by decide) (by decide) (own_Wparts w junk 0 7).2.2.2.2.2.2.1
  have l : own_f5 (own_W w junk 0 7) 0 7 = (10 * (10 * (10 * (10 * (10 * (10 * (10 * (0 : Int32) + own_by (own_W w junk 0 7) 0 - 48) + own_by (own_W w junk 0 7) 1 - 48) + own_by (own_W w junk 0 7) 2 - 48) + own_by (own_W w junk 0 7) 3 - 48) + own_by (own_W w junk 0 7) 4 - 48) + own_by (own_W w junk 0 7) 5 - 48) + own_by (own_W w junk 0 7) 6 - 48) := rfl
  rw [l, h0, h1, h2, h3, h4, h5, h6]
  have r : own_T w 0 7 = ((((((((own_f3 w 0).toInt32 * 1000000 + (own_f3 w 1).toInt32 * 100000) + (own_f3 w 2).toInt32 * 10000) + (own_f3 w 3).toInt32 * 1000) + (own_f3 w 4).toInt32 * 100) + (own_f3 w 5).toInt32 * 10) + (own_f3 w 6).toInt32 * 1) + (0 : Int32)) := rfl
  rw [r]
  clear l r h0 h1 h2 h3 h4 h5 h6
  generalize (own_f3 w 0).toInt32 = d0
  generalize (own_f3 w 1).toInt32 = d1
  generalize (own_f3 w 2).toInt32 = d2
  generalize (own_f3 w 3).toInt32 = d3
  generalize (own_f3 w 4).toInt32 = d4
  generalize (own_f3 w 5).toInt32 = d5
  generalize (own_f3 w 6).toInt32 = d6
  grind
theorem own_case_0_8 (w junk : Int64) : own_f5 (own_W w junk 0 8) 0 8 = own_T w 0 8 := by
  have h0 := own_in w junk (own_W w junk 0 8) 0 0 8 0 (by decide) (by decide) (by decide) (own_Wparts w junk 0 8).1
  have h1 := own_in w junk (own_W w junk 0 8) 1 0 8 8 (by decide) (by decide) (by decide) (own_Wparts w junk 0 8).2.1
  have h2 := own_in w junk (own_W w junk 0 8) 2 0 8 16 (by decide) (by decide) (by decide) (own_Wparts w junk 0 8).2.2.1
  have h3 := own_in w junk (own_W w junk 0 8) 3 0 8 24 (by decide) (by decide) (by decide) (own_Wparts w junk 0 8).2.2.2.1
  have h4 := own_in w junk (own_W w junk 0 8) 4 0 8 32 (by decide) (by decide) (by decide) (own_Wparts w junk 0 8).2.2.2.2.1
  have h5 := own_in w junk (own_W w junk 0 8) 5 0 8 40 (by decide) (by decide) (by decide) (own_Wparts w junk 0 8).2.2.2.2.2.1
  have h6 := own_in w junk (own_W w junk 0 8) 6 0 8 48 (by decide) (by decide) (by decide) (own_Wparts w junk 0 8).2.2.2.2.2.2.1
  have h7 := own_in w junk (own_W w junk 0 8) 7 0 8 56 (by decide) (by decide) (by decide) (own_Wparts w junk 0 8).2.2.2.2.2.2.2
  have l : own_f5 (own_W w junk 0 8) 0 8 = (10 * (10 * (10 * (10 * (10 * (10 * (10 * (10 * (0 : Int32) + own_by (own_W w junk 0 8) 0 - 48) + own_by (own_W w junk 0 8) 1 - 48) + own_by (own_W w junk 0 8) 2 - 48) + own_by (own_W w junk 0 8) 3 - 48) + own_by (own_W w junk 0 8) 4 - 48) + own_by (own_W w junk 0 8) 5 - 48) + own_by (own_W w junk 0 8) 6 - 48) + own_by (own_W w junk 0 8) 7 - 48) := rfl
  rw [l, h0, h1, h2, h3, h4, h5, h6, h7]
  have r : own_T w 0 8 = ((((((((own_f3 w 0).toInt32 * 10000000 + (own_f3 w 1).toInt32 * 1000000) + (own_f3 w 2).toInt32 * 100000) + (own_f3 w 3).toInt32 * 10000) + (own_f3 w 4).toInt32 * 1000) + (own_f3 w 5).toInt32 * 100) + (own_f3 w 6).toInt32 * 10) + (own_f3 w 7).toInt32 * 1) := rfl
  rw [r]
  clear l r h0 h1 h2 h3 h4 h5 h6 h7
  generalize (own_f3 w 0).toInt32 = d0
  generalize (own_f3 w 1).toInt32 = d1
  generalize (own_f3 w 2).toInt32 = d2
  generalize (own_f3 w 3).toInt32 = d3
  generalize (own_f3 w 4).toInt32 = d4
  generalize (own_f3 w 5).toInt32 = d5
  generalize (own_f3 w 6).toInt32 = d6
  generalize (own_f3 w 7).toInt32 = d7
  grind
theorem own_case_1_0 (w junk : Int64) : own_f5 (own_W w junk 1 0) 1 0 = own_T w 1 0 := by
  rfl
theorem own_case_1_1 (w junk : Int64) : own_f5 (own_W w junk 1 1) 1 1 = own_T w 1 1 := by
  have h1 := own_in w junk (own_W w junk 1 1) 1 1 1 8 (by decide) (by decide) (by decide) (own_Wparts w junk 1 1).2.1
  have l : own_f5 (own_W w junk 1 1) 1 1 = (10 * (0 : Int32) + own_by (own_W w junk 1 1) 1 - 48) := rfl
  rw [l, h1]
  have r : own_T w 1 1 = ((((((((0 : Int32) + (own_f3 w 1).toInt32 * 1) + (0 : Int32)) + (0 : Int32)) + (0 : Int32)) + (0 : Int32)) + (0 : Int32)) + (0 : Int32)) := rfl
  rw [r]
  clear l r h1
  generalize (own_f3 w 1).toInt32 = d1
  grind
theorem own_case_1_2 (w junk : Int64) : own_f5 (own_W w junk 1 2) 1 2 = own_T w 1 2 := by
  have h1 := own_in w junk (own_W w junk 1 2) 1 1 2 8 (by decide) (by decide) (by decide) (own_Wparts w junk 1 2).2.1
  have h2 := own_in w junk (own_W w junk 1 2) 2 1 2 16 (by decide) (by decide) (by decide) (own_Wparts w junk 1 2).2.2.1
  have l : own_f5 (own_W w junk 1 2) 1 2 = (10 * (10 * (0 : Int32) + own_by (own_W w junk 1 2) 1 - 48) + own_by (own_W w junk 1 2) 2 - 48) := rfl
  rw [l, h1, h2]
  have r : own_T w 1 2 = ((((((((0 : Int32) + (own_f3 w 1).toInt32 * 10) + (own_f3 w 2).toInt32 * 1) + (0 : Int32)) + (0 : Int32)) + (0 : Int32)) + (0 : Int32)) + (0 : Int32)) := rfl
  rw [r]
  clear l r h1 h2
  generalize (own_f3 w 1).toInt32 = d1
  generalize (own_f3 w 2).toInt32 = d2
  grind
theorem own_case_1_3 (w junk : Int64) : own_f5 (own_W w junk 1 3) 1 3 = own_T w 1 3 := by
  have h1 := own_in w junk (own_W w junk 1 3) 1 1 3 8 (by decide) (by decide) (by decide) (own_Wparts w junk 1 3).2.1
  have h2 := own_in w junk (own_W w junk 1 3) 2 1 3 16 (by decide) (by decide) (by decide) (own_Wparts w junk 1 3).2.2.1
  have h3 := own_in w junk (own_W w junk 1 3) 3 1 3 24 (by decide) (by decide) (by decide) (own_Wparts w junk 1 3).2.2.2.1
  have l : own_f5 (own_W w junk 1 3) 1 3 = (10 * (10 * (10 * (0 : Int32) + own_by (own_W w junk 1 3) 1 - 48) + own_by (own_W w junk 1 3) 2 - 48) + own_by (own_W w junk 1 3) 3 - 48) := rfl
  rw [l, h1, h2, h3]
  have r : own_T w 1 3 = ((((((((0 : Int32) + (own_f3 w 1).toInt32 * 100) + (own_f3 w 2).toInt32 * 10) + (own_f3 w 3).toInt32 * 1) + (0 : Int32)) + (0 : Int32)) + (0 : Int32)) + (0 : Int32)) := rfl
  rw [r]
  clear l r h1 h2 h3
  generalize (own_f3 w 1).toInt32 = d1
  generalize (own_f3 w 2).toInt32 = d2
  generalize (own_f3 w 3).toInt32 = d3
  grind
theorem own_case_1_4 (w junk : Int64) : own_f5 (own_W w junk 1 4) 1 4 = own_T w 1 4 := by
  have h1 := own_in w junk (own_W w junk 1 4) 1 1 4 8 (by decide) (by decide) (by decide) (own_Wparts w junk 1 4).2.1
  have h2 := own_in w junk (own_W w junk 1 4) 2 1 4 16 (by decide) (by decide) (by decide) (own_Wparts w junk 1 4).2.2.1
  have h3 := own_in w junk (own_W w junk 1 4) 3 1 4 24 (by decide) (by decide) (by decide) (own_Wparts w junk 1 4).2.2.2.1
  have h4 := own_in w junk (own_W w junk 1 4) 4 1 4 32 (by decide) (by decide) (by decide) (own_Wparts w junk 1 4).2.2.2.2.1
  have l : own_f5 (own_W w junk 1 4) 1 4 = (10 * (10 * (10 * (10 * (0 : Int32) + own_by (own_W w junk 1 4) 1 - 48) + own_by (own_W w junk 1 4) 2 - 48) + own_by (own_W w junk 1 4) 3 - 48) + own_by (own_W w junk 1 4) 4 - 48) := rfl
  rw [l, h1, h2, h3, h4]
  have r : own_T w 1 4 = ((((((((0 : Int32) + (own_f3 w 1).toInt32 * 1000) + (own_f3 w 2).toInt32 * 100) + (own_f3 w 3).toInt32 * 10) + (own_f3 w 4).toInt32 * 1) + (0 : Int32)) + (0 : Int32)) + (0 : Int32)) := rfl
  rw [r]
  clear l r h1 h2 h3 h4
  generalize (own_f3 w 1).toInt32 = d1
  generalize (own_f3 w 2).toInt32 = d2
  generalize (own_f3 w 3).toInt32 = d3
  generalize (own_f3 w 4).toInt32 = d4
  grind
theorem own_case_1_5 (w junk : Int64) : own_f5 (own_W w junk 1 5) 1 5 = own_T w 1 5 := by
  have h1 := own_in w junk (own_W w junk 1 5) 1 1 5 8 (by decide) (by decide) (by decide) (own_Wparts w junk 1 5).2.1
  have h2 := own_in w junk (own_W w junk 1 5) 2 1 5 16 (by decide) (by decide) (by decide) (own_Wparts w junk 1 5).2.2.1
  have h3 := own_in w junk (own_W w junk 1 5) 3 1 5 24 (by decide) (by decide) (by decide) (own_Wparts w junk 1 5).2.2.2.1
  have h4 := own_in w junk (own_W w junk 1 5) 4 1 5 32 (by decide) (by decide) (by decide) (own_Wparts w junk 1 5).2.2.2.2.1
  have h5 := own_in w junk (own_W w junk 1 5) 5 1 5 40 (by decide) (by decide) (by decide) (own_Wparts w junk 1 5).2.2.2.2.2.1
  have l : own_f5 (own_W w junk 1 5) 1 5 = (10 * (10 * (10 * (10 * (10 * (0 : Int32) + own_by (own_W w junk 1 5) 1 - 48) + own_by (own_W w junk 1 5) 2 - 48) + own_by (own_W w junk 1 5) 3 - 48) + own_by (own_W w junk 1 5) 4 - 48) + own_by (own_W w junk 1 5) 5 - 48) := rfl
  rw [l, h1, h2, h3, h4, h5]
  have r : own_T w 1 5 = ((((((((0 : Int32) + (own_f3 w 1).toInt32 * 10000) + (own_f3 w 2).toInt32 * 1000) + (own_f3 w 3).toInt32 * 100) + (own_f3 w 4).toInt32 * 10) + (own_f3 w 5).toInt32 * 1) + (0 : Int32)) + (0 : Int32)) := rfl
  rw [r]
  clear l r h1 h2 h3 h4 h5
  generalize (own_f3 w 1).toInt32 = d1
  generalize (own_f3 w 2).toInt32 = d2
  generalize (own_f3 w 3).toInt32 = d3
  generalize (own_f3 w 4).toInt32 = d4
  generalize (own_f3 w 5).toInt32 = d5
  grind
theorem own_case_1_6 (w junk : Int64) : own_f5 (own_W w junk 1 6) 1 6 = own_T w 1 6 := by
  have h1 := own_in w junk (own_W w junk 1 6) 1 1 6 8 (by decide) (by decide) (by decide) (own_Wparts w junk 1 6).2.1
  have h2 := own_in w junk (own_W w junk 1 6) 2 1 6 16 (by decide) (by decide) (by decide) (own_Wparts w junk 1 6).2.2.1
  have h3 := own_in w junk (own_W w junk 1 6) 3 1 6 24 (by decide) (by decide) (by decide) (own_Wparts w junk 1 6).2.2.2.1
  have h4 := own_in w junk (own_W w junk 1 6) 4 1 6 32 (by decide) (by decide) (by decide) (own_Wparts w junk 1 6).2.2.2.2.1
  have h5 := own_in w junk (own_W w junk 1 6) 5 1 6 40 (by decide) (by decide) (by decide) (own_Wparts w junk 1 6).2.2.2.2.2.1
  have h6 := own_in w junk (own_W w junk 1 6) 6 1 6 48 (by decide) (by decide) (by decide) (own_Wparts w junk 1 6).2.2.2.2.2.2.1
  have l : own_f5 (own_W w junk 1 6) 1 6 = (10 * (10 * (10 * (10 * (10 * (10 * (0 : Int32) + own_by (own_W w junk 1 6) 1 - 48) + own_by (own_W w junk 1 6) 2 - 48) + own_by (own_W w junk 1 6) 3 - 48) + own_by (own_W w junk 1 6) 4 - 48) + own_by (own_W w junk 1 6) 5 - 48) + own_by (own_W w junk 1 6) 6 - 48) := rfl
  rw [l, h1, h2, h3, h4, h5, h6]
  have r : own_T w 1 6 = ((((((((0 : Int32) + (own_f3 w 1).toInt32 * 100000) + (own_f3 w 2).toInt32 * 10000) + (own_f3 w 3).toInt32 * 1000) + (own_f3 w 4).toInt32 * 100) + (own_f3 w 5).toInt32 * 10) + (own_f3 w 6).toInt32 * 1) + (0 : Int32)) := rfl
  rw [r]
  clear l r h1 h2 h3 h4 h5 h6
  generalize (own_f3 w 1).toInt32 = d1
  generalize (own_f3 w 2).toInt32 = d2
  generalize (own_f3 w 3).toInt32 = d3
  generalize (own_f3 w 4).toInt32 = d4
  generalize (own_f3 w 5).toInt32 = d5
  generalize (own_f3 w 6).toInt32 = d6
  grind
theorem own_case_1_7 (w junk : Int64) : own_f5 (own_W w junk 1 7) 1 7 = own_T w 1 7 := by
  have h1 := own_in w junk (own_W w junk 1 7) 1 1 7 8 (by decide) (by decide) (by decide) (own_Wparts w junk 1 7).2.1
  have h2 := own_in w junk (own_W w junk 1 7) 2 1 7 16 (by decide) (by decide) (by decide) (own_Wparts w junk 1 7).2.2.1
  have h3 := own_in w junk (own_W w junk 1 7) 3 1 7 24 (by decide) (by decide) (by decide) (own_Wparts w junk 1 7).2.2.2.1
  have h4 := own_in w junk (own_W w junk 1 7) 4 1 7 32 (by decide) (by decide) (by decide) (own_Wparts w junk 1 7).2.2.2.2.1
  have h5 := own_in w junk (own_W w junk 1 7) 5 1 7 40 (by decide) (by decide) (by decide) (own_Wparts w junk 1 7).2.2.2.2.2.1
  have h6 := own_in w junk (own_W w junk 1 7) 6 1 7 48 (by decide) (by decide) (by decide) (own_Wparts w junk 1 7).2.2.2.2.2.2.1
  have h7 := own_in w junk (own_W w junk 1 7) 7 1 7 56 (by decide) (by decide) (by decide) (own_Wparts w junk 1 7).2.2.2.2.2.2.2
  have l : own_f5 (own_W w junk 1 7) 1 7 = (10 * (10 * (10 * (10 * (10 * (10 * (10 * (0 : Int32) + own_by (own_W w junk 1 7) 1 - 48) + own_by (own_W w junk 1 7) 2 - 48) + own_by (own_W w junk 1 7) 3 - 48) + own_by (own_W w junk 1 7) 4 - 48) + own_by (own_W w junk 1 7) 5 - 48) + own_by (own_W w junk 1 7) 6 - 48) + own_by (own_W w junk 1 7) 7 - 48) := rfl
  rw [l, h1, h2, h3, h4, h5, h6, h7]
  have r : own_T w 1 7 = ((((((((0 : Int32) + (own_f3 w 1).toInt32 * 1000000) + (own_f3 w 2).toInt32 * 100000) + (own_f3 w 3).toInt32 * 10000) + (own_f3 w 4).toInt32 * 1000) + (own_f3 w 5).toInt32 * 100) + (own_f3 w 6).toInt32 * 10) + (own_f3 w 7).toInt32 * 1) := rfl
  rw [r]
  clear l r h1 h2 h3 h4 h5 h6 h7
  generalize (own_f3 w 1).toInt32 = d1
  generalize (own_f3 w 2).toInt32 = d2
  generalize (own_f3 w 3).toInt32 = d3
  generalize (own_f3 w 4).toInt32 = d4
  generalize (own_f3 w 5).toInt32 = d5
  generalize (own_f3 w 6).toInt32 = d6
  generalize (own_f3 w 7).toInt32 = d7
  grind
theorem own_case_2_0 (w junk : Int64) : own_f5 (own_W w junk 2 0) 2 0 = own_T w 2 0 := by
  rfl
theorem own_case_2_1 (w junk : Int64) : own_f5 (own_W w junk 2 1) 2 1 = own_T w 2 1 := by
  have h2 := own_in w junk (own_W w junk 2 1) 2 2 1 16 (by decide) (by decide) (by decide) (own_Wparts w junk 2 1).2.2.1
  have l : own_f5 (own_W w junk 2 1) 2 1 = (10 * (0 : Int32) + own_by (own_W w junk 2 1) 2 - 48) := rfl
  rw [l, h2]
  have r : own_T w 2 1 = ((((((((0 : Int32) + (0 : Int32)) + (own_f3 w 2).toInt32 * 1) + (0 : Int32)) + (0 : Int32)) + (0 : Int32)) + (0 : Int32)) + (0 : Int32)) := rfl
  rw [r]
  clear l r h2
  generalize (own_f3 w 2).toInt32 = d2
  grind
theorem own_case_2_2 (w junk : Int64) : own_f5 (own_W w junk 2 2) 2 2 = own_T w 2 2 := by
  have h2 := own_in w junk (own_W w junk 2 2) 2 2 2 16 (by decide) (by decide) (by decide) (own_Wparts w junk 2 2).2.2.1
  have h3 := own_in w junk (own_W w junk 2 2) 3 2 2 24 (by decide) (by decide) (by decide) (own_Wparts w junk 2 2).2.2.2.1
  have l : own_f5 (own_W w junk 2 2) 2 2 = (10 * (10 * (0 : Int32) + own_by (own_W w junk 2 2) 2 - 48) + own_by (own_W w junk 2 2) 3 - 48) := rfl
  rw [l, h2, h3]
  have r : own_T w 2 2 = ((((((((0 : Int32) + (0 : Int32)) + (own_f3 w 2).toInt32 * 10) + (own_f3 w 3).toInt32 * 1) + (0 : Int32)) + (0 : Int32)) + (0 : Int32)) + (0 : Int32)) := rfl
  rw [r]
  clear l r h2 h3
  generalize (own_f3 w 2).toInt32 = d2
  generalize (own_f3 w 3).toInt32 = d3
  grind
theorem own_case_2_3 (w junk : Int64) : own_f5 (own_W w junk 2 3) 2 3 = own_T w 2 3 := by
  have h2 := own_in w junk (own_W w junk 2 3) 2 2 3 16 (by decide) (by decide) (by decide) (own_Wparts w junk 2 3).2.2.1
  have h3 := own_in w junk (own_W w junk 2 3) 3 2 3 24 (by decide) (by decide) (by decide) (own_Wparts w junk 2 3).2.2.2.1
  have h4 := own_in w junk (own_W w junk 2 3) 4 2 3 32 (by decide) (by decide) (by decide) (own_Wparts w junk 2 3).2.2.2.2.1
  have l : own_f5 (own_W w junk 2 3) 2 3 = (10 * (10 * (10 * (0 : Int32) + own_by (own_W w junk 2 3) 2 - 48) + own_by (own_W w junk 2 3) 3 - 48) + own_by (own_W w junk 2 3) 4 - 48) := rfl
  rw [l, h2, h3, h4]
  have r : own_T w 2 3 = ((((((((0 : Int32) + (0 : Int32)) + (own_f3 w 2).toInt32 * 100) + (own_f3 w 3).toInt32 * 10) + (own_f3 w 4).toInt32 * 1) + (0 : Int32)) + (0 : Int32)) + (0 : Int32)) := rfl
  rw [r]
  clear l r h2 h3 h4
  generalize (own_f3 w 2).toInt32 = d2
  generalize (own_f3 w 3).toInt32 = d3
  generalize (own_f3 w 4).toInt32 = d4
  grind
theorem own_case_2_4 (w junk : Int64) : own_f5 (own_W w junk 2 4) 2 4 = own_T w 2 4 := by
  have h2 := own_in w junk (own_W w junk 2 4) 2 2 4 16 (by decide) (by decide) (by decide) (own_Wparts w junk 2 4).2.2.1
  have h3 := own_in w junk (own_W w junk 2 4) 3 2 4 24 (by decide) (by decide) (by decide) (own_Wparts w junk 2 4).2.2.2.1
  have h4 := own_in w junk (own_W w junk 2 4) 4 2 4 32 (by decide) (by decide) (by decide) (own_Wparts w junk 2 4).2.2.2.2.1
  have h5 := own_in w junk (own_W w junk 2 4) 5 2 4 40 (by decide) (by decide) (by decide) (own_Wparts w junk 2 4).2.2.2.2.2.1
  have l : own_f5 (own_W w junk 2 4) 2 4 = (10 * (10 * (10 * (10 * (0 : Int32) + own_by (own_W w junk 2 4) 2 - 48) + own_by (own_W w junk 2 4) 3 - 48) + own_by (own_W w junk 2 4) 4 - 48) + own_by (own_W w junk 2 4) 5 - 48) := rfl
  rw [l, h2, h3, h4, h5]
  have r : own_T w 2 4 = ((((((((0 : Int32) + (0 : Int32)) + (own_f3 w 2).toInt32 * 1000) + (own_f3 w 3).toInt32 * 100) + (own_f3 w 4).toInt32 * 10) + (own_f3 w 5).toInt32 * 1) + (0 : Int32)) + (0 : Int32)) := rfl
  rw [r]
  clear l r h2 h3 h4 h5
  generalize (own_f3 w 2).toInt32 = d2
  generalize (own_f3 w 3).toInt32 = d3
  generalize (own_f3 w 4).toInt32 = d4
  generalize (own_f3 w 5).toInt32 = d5
  grind
theorem own_case_2_5 (w junk : Int64) : own_f5 (own_W w junk 2 5) 2 5 = own_T w 2 5 := by
  have h2 := own_in w junk (own_W w junk 2 5) 2 2 5 16 (by decide) (by decide) (by decide) (own_Wparts w junk 2 5).2.2.1
  have h3 := own_in w junk (own_W w junk 2 5) 3 2 5 24 (by decide) (by decide) (by decide) (own_Wparts w junk 2 5).2.2.2.1
  have h4 := own_in w junk (own_W w junk 2 5) 4 2 5 32 (by decide) (by decide) (by decide) (own_Wparts w junk 2 5).2.2.2.2.1
  have h5 := own_in w junk (own_W w junk 2 5) 5 2 5 40 (by decide) (by decide) (by decide) (own_Wparts w junk 2 5).2.2.2.2.2.1
  have h6 := own_in w junk (own_W w junk 2 5) 6 2 5 48 (by decide) (by decide) (by decide) (own_Wparts w junk 2 5).2.2.2.2.2.2.1
  have l : own_f5 (own_W w junk 2 5) 2 5 = (10 * (10 * (10 * (10 * (10 * (0 : Int32) + own_by (own_W w junk 2 5) 2 - 48) + own_by (own_W w junk 2 5) 3 - 48) + own_by (own_W w junk 2 5) 4 - 48) + own_by (own_W w junk 2 5) 5 - 48) + own_by (own_W w junk 2 5) 6 - 48) := rfl
  rw [l, h2, h3, h4, h5, h6]
  have r : own_T w 2 5 = ((((((((0 : Int32) + (0 : Int32)) + (own_f3 w 2).toInt32 * 10000) + (own_f3 w 3).toInt32 * 1000) + (own_f3 w 4).toInt32 * 100) + (own_f3 w 5).toInt32 * 10) + (own_f3 w 6).toInt32 * 1) + (0 : Int32)) := rfl
  rw [r]
  clear l r h2 h3 h4 h5 h6
  generalize (own_f3 w 2).toInt32 = d2
  generalize (own_f3 w 3).toInt32 = d3
  generalize (own_f3 w 4).toInt32 = d4
  generalize (own_f3 w 5).toInt32 = d5
  generalize (own_f3 w 6).toInt32 = d6
  grind
theorem own_case_2_6 (w junk : Int64) : own_f5 (own_W w junk 2 6) 2 6 = own_T w 2 6 := by
  have h2 := own_in w junk (own_W w junk 2 6) 2 2 6 16 (by decide) (by decide) (by decide) (own_Wparts w junk 2 6).2.2.1
  have h3 := own_in w junk (own_W w junk 2 6) 3 2 6 24 (by decide) (by decide) (by decide) (own_Wparts w junk 2 6).2.2.2.1
  have h4 := own_in w junk (own_W w junk 2 6) 4 2 6 32 (by decide) (by decide) (by decide) (own_Wparts w junk 2 6).2.2.2.2.1
  have h5 := own_in w junk (own_W w junk 2 6) 5 2 6 40 (by decide) (by decide) (by decide) (own_Wparts w junk 2 6).2.2.2.2.2.1
  have h6 := own_in w junk (own_W w junk 2 6) 6 2 6 48 (by decide) (by decide) (by decide) (own_Wparts w junk 2 6).2.2.2.2.2.2.1
  have h7 := own_in w junk (own_W w junk 2 6) 7 2 6 56 (by decide) (by decide) (by decide) (own_Wparts w junk 2 6).2.2.2.2.2.2.2
  have l : own_f5 (own_W w junk 2 6) 2 6 = (10 * (10 * (10 * (10 * (10 * (10 * (0 : Int32) + own_by (own_W w junk 2 6) 2 - 48) + own_by (own_W w junk 2 6) 3 - 48) + own_by (own_W w junk 2 6) 4 - 48) + own_by (own_W w junk 2 6) 5 - 48) + own_by (own_W w junk 2 6) 6 - 48) + own_by (own_W w junk 2 6) 7 - 48) := rfl
  rw [l, h2, h3, h4, h5, h6, h7]
  have r : own_T w 2 6 = ((((((((0 : Int32) + (0 : Int32)) + (own_f3 w 2).toInt32 * 100000) + (own_f3 w 3).toInt32 * 10000) + (own_f3 w 4).toInt32 * 1000) + (own_f3 w 5).toInt32 * 100) + (own_f3 w 6).toInt32 * 10) + (own_f3 w 7).toInt32 * 1) := rfl
  rw [r]
  clear l r h2 h3 h4 h5 h6 h7
  generalize (own_f3 w 2).toInt32 = d2
  generalize (own_f3 w 3).toInt32 = d3
  generalize (own_f3 w 4).toInt32 = d4
  generalize (own_f3 w 5).toInt32 = d5
  generalize (own_f3 w 6).toInt32 = d6
  generalize (own_f3 w 7).toInt32 = d7
  grind
theorem own_case_3_0 (w junk : Int64) : own_f5 (own_W w junk 3 0) 3 0 = own_T w 3 0 := by
  rfl
theorem own_case_3_1 (w junk : Int64) : own_f5 (own_W w junk 3 1) 3 1 = own_T w 3 1 := by
  have h3 := own_in w junk (own_W w junk 3 1) 3 3 1 24 (by decide) (by decide) (by decide) (own_Wparts w junk 3 1).2.2.2.1
  have l : own_f5 (own_W w junk 3 1) 3 1 = (10 * (0 : Int32) + own_by (own_W w junk 3 1) 3 - 48) := rfl
  rw [l, h3]
  have r : own_T w 3 1 = ((((((((0 : Int32) + (0 : Int32)) + (0 : Int32)) + (own_f3 w 3).toInt32 * 1) + (0 : Int32)) + (0 : Int32)) + (0 : Int32)) + (0 : Int32)) := rfl
  rw [r]
  clear l r h3
  generalize (own_f3 w 3).toInt32 = d3
  grind
theorem own_case_3_2 (w junk : Int64) : own_f5 (own_W w junk 3 2) 3 2 = own_T w 3 2 := by
  have h3 := own_in w junk (own_W w junk 3 2) 3 3 2 24 (by decide) (by decide) (by decide) (own_Wparts w junk 3 2).2.2.2.1
  have h4 := own_in w junk (own_W w junk 3 2) 4 3 2 32 (by decide) (by decide) (by decide) (own_Wparts w junk 3 2).2.2.2.2.1
  have l : own_f5 (own_W w junk 3 2) 3 2 = (10 * (10 * (0 : Int32) + own_by (own_W w junk 3 2) 3 - 48) + own_by (own_W w junk 3 2) 4 - 48) := rfl
  rw [l, h3, h4]
  have r : own_T w 3 2 = ((((((((0 : Int32) + (0 : Int32)) + (0 : Int32)) + (own_f3 w 3).toInt32 * 10) + (own_f3 w 4).toInt32 * 1) + (0 : Int32)) + (0 : Int32)) + (0 : Int32)) := rfl
  rw [r]
  clear l r h3 h4
  generalize (own_f3 w 3).toInt32 = d3
  generalize (own_f3 w 4).toInt32 = d4
  grind
theorem own_case_3_3 (w junk : Int64) : own_f5 (own_W w junk 3 3) 3 3 = own_T w 3 3 := by
  have h3 := own_in w junk (own_W w junk 3 3) 3 3 3 24 (by decide) (by decide) (by decide) (own_Wparts w junk 3 3).2.2.2.1
  have h4 := own_in w junk (own_W w junk 3 3) 4 3 3 32 (by decide) (by decide) (by decide) (own_Wparts w junk 3 3).2.2.2.2.1
  have h5 := own_in w junk (own_W w junk 3 3) 5 3 3 40 (by decide) (by decide) (by decide) (own_Wparts w junk 3 3).2.2.2.2.2.1
  have l : own_f5 (own_W w junk 3 3) 3 3 = (10 * (10 * (10 * (0 : Int32) + own_by (own_W w junk 3 3) 3 - 48) + own_by (own_W w junk 3 3) 4 - 48) + own_by (own_W w junk 3 3) 5 - 48) := rfl
  rw [l, h3, h4, h5]
  have r : own_T w 3 3 = ((((((((0 : Int32) + (0 : Int32)) + (0 : Int32)) + (own_f3 w 3).toInt32 * 100) + (own_f3 w 4).toInt32 * 10) + (own_f3 w 5).toInt32 * 1) + (0 : Int32)) + (0 : Int32)) := rfl
  rw [r]
  clear l r h3 h4 h5
  generalize (own_f3 w 3).toInt32 = d3
  generalize (own_f3 w 4).toInt32 = d4
  generalize (own_f3 w 5).toInt32 = d5
  grind
theorem own_case_3_4 (w junk : Int64) : own_f5 (own_W w junk 3 4) 3 4 = own_T w 3 4 := by
  have h3 := own_in w junk (own_W w junk 3 4) 3 3 4 24 (by decide) (by decide) (by decide) (own_Wparts w junk 3 4).2.2.2.1
  have h4 := own_in w junk (own_W w junk 3 4) 4 3 4 32 (by decide) (by decide) (by decide) (own_Wparts w junk 3 4).2.2.2.2.1
  have h5 := own_in w junk (own_W w junk 3 4) 5 3 4 40 (by decide) (by decide) (by decide) (own_Wparts w junk 3 4).2.2.2.2.2.1
  have h6 := own_in w junk (own_W w junk 3 4) 6 3 4 48 (by decide) (by decide) (by decide) (own_Wparts w junk 3 4).2.2.2.2.2.2.1
  have l : own_f5 (own_W w junk 3 4) 3 4 = (10 * (10 * (10 * (10 * (0 : Int32) + own_by (own_W w junk 3 4) 3 - 48) + own_by (own_W w junk 3 4) 4 - 48) + own_by (own_W w junk 3 4) 5 - 48) + own_by (own_W w junk 3 4) 6 - 48) := rfl
  rw [l, h3, h4, h5, h6]
  have r : own_T w 3 4 = ((((((((0 : Int32) + (0 : Int32)) + (0 : Int32)) + (own_f3 w 3).toInt32 * 1000) + (own_f3 w 4).toInt32 * 100) + (own_f3 w 5).toInt32 * 10) + (own_f3 w 6).toInt32 * 1) + (0 : Int32)) := rfl
  rw [r]
  clear l r h3 h4 h5 h6
  generalize (own_f3 w 3).toInt32 = d3
  generalize (own_f3 w 4).toInt32 = d4
  generalize (own_f3 w 5).toInt32 = d5
  generalize (own_f3 w 6).toInt32 = d6
  grind
theorem own_case_3_5 (w junk : Int64) : own_f5 (own_W w junk 3 5) 3 5 = own_T w 3 5 := by
  have h3 := own_in w junk (own_W w junk 3 5) 3 3 5 24 (by decide) (by decide) (by decide) (own_Wparts w junk 3 5).2.2.2.1
  have h4 := own_in w junk (own_W w junk 3 5) 4 3 5 32 (by decide) (by decide) (by decide) (own_Wparts w junk 3 5).2.2.2.2.1
  have h5 := own_in w junk (own_W w junk 3 5) 5 3 5 40 (by decide) (by decide) (by decide) (own_Wparts w junk 3 5).2.2.2.2.2.1
  have h6 := own_in w junk (own_W w junk 3 5) 6 3 5 48 (by decide) (by decide) (by decide) (own_Wparts w junk 3 5).2.2.2.2.2.2.1
  have h7 := own_in w junk (own_W w junk 3 5) 7 3 5 56 (by decide) (by decide) (by decide) (own_Wparts w junk 3 5).2.2.2.2.2.2.2
  have l : own_f5 (own_W w junk 3 5) 3 5 = (10 * (10 * (10 * (10 * (10 * (0 : Int32) + own_by (own_W w junk 3 5) 3 - 48) + own_by (own_W w junk 3 5) 4 - 48) + own_by (own_W w junk 3 5) 5 - 48) + own_by (own_W w junk 3 5) 6 - 48) + own_by (own_W w junk 3 5) 7 - 48) := rfl
  rw [l, h3, h4, h5, h6, h7]
  have r : own_T w 3 5 = ((((((((0 : Int32) + (0 : Int32)) + (0 : Int32)) + (own_f3 w 3).toInt32 * 10000) + (own_f3 w 4).toInt32 * 1000) + (own_f3 w 5).toInt32 * 100) + (own_f3 w 6).toInt32 * 10) + (own_f3 w 7).toInt32 * 1) := rfl
  rw [r]
  clear l r h3 h4 h5 h6 h7
  generalize (own_f3 w 3).toInt32 = d3
  generalize (own_f3 w 4).toInt32 = d4
  generalize (own_f3 w 5).toInt32 = d5
  generalize (own_f3 w 6).toInt32 = d6
  generalize (own_f3 w 7).toInt32 = d7
  grind
theorem own_case_4_0 (w junk : Int64) : own_f5 (own_W w junk 4 0) 4 0 = own_T w 4 0 := by
  rfl
theorem own_case_4_1 (w junk : Int64) : own_f5 (own_W w junk 4 1) 4 1 = own_T w 4 1 := by
  have h4 := own_in w junk (own_W w junk 4 1) 4 4 1 32 (by decide) (by decide) (by decide) (own_Wparts w junk 4 1).2.2.2.2.1
  have l : own_f5 (own_W w junk 4 1) 4 1 = (10 * (0 : Int32) + own_by (own_W w junk 4 1) 4 - 48) := rfl
  rw [l, h4]
  have r : own_T w 4 1 = ((((((((0 : Int32) + (0 : Int32)) + (0 : Int32)) + (0 : Int32)) + (own_f3 w 4).toInt32 * 1) + (0 : Int32)) + (0 : Int32)) + (0 : Int32)) := rfl
  rw [r]
  clear l r h4
  generalize (own_f3 w 4).toInt32 = d4
  grind
theorem own_case_4_2 (w junk : Int64) : own_f5 (own_W w junk 4 2) 4 2 = own_T w 4 2 := by
  have h4 := own_in w junk (own_W w junk 4 2) 4 4 2 32 (by decide) (by decide) (by decide) (own_Wparts w junk 4 2).2.2.2.2.1
  have h5 := own_in w junk (own_W w junk 4 2) 5 4 2 40 (by decide) (by decide) (by decide) (own_Wparts w junk 4 2).2.2.2.2.2.1
  have l : own_f5 (own_W w junk 4 2) 4 2 = (10 * (10 * (0 : Int32) + own_by (own_W w junk 4 2) 4 - 48) + own_by (own_W w junk 4 2) 5 - 48) := rfl
  rw [l, h4, h5]
  have r : own_T w 4 2 = ((((((((0 : Int32) + (0 : Int32)) + (0 : Int32)) + (0 : Int32)) + (own_f3 w 4).toInt32 * 10) + (own_f3 w 5).toInt32 * 1) + (0 : Int32)) + (0 : Int32)) := rfl
  rw [r]
  clear l r h4 h5
  generalize (own_f3 w 4).toInt32 = d4
  generalize (own_f3 w 5).toInt32 = d5
  grind
theorem own_case_4_3 (w junk : Int64) : own_f5 (own_W w junk 4 3) 4 3 = own_T w 4 3 := by
  have h4 := own_in w junk (own_W w junk 4 3) 4 4 3 32 (by decide) (by decide) (by decide) (own_Wparts w junk 4 3).2.2.2.2.1
  have h5 := own_in w junk (own_W w junk 4 3) 5 4 3 40 (by decide) (by decide) (by decide) (own_Wparts w junk 4 3).2.2.2.2.2.1
  have h6 := own_in w junk (own_W w junk 4 3) 6 4 3 48 (by decide) (by decide) (by decide) (own_Wparts w junk 4 3).2.2.2.2.2.2.1
  have l : own_f5 (own_W w junk 4 3) 4 3 = (10 * (10 * (10 * (0 : Int32) + own_by (own_W w junk 4 3) 4 - 48) + own_by (own_W w junk 4 3) 5 - 48) + own_by (own_W w junk 4 3) 6 - 48) := rfl
  rw [l, h4, h5, h6]
  have r : own_T w 4 3 = ((((((((0 : Int32) + (0 : Int32)) + (0 : Int32)) + (0 : Int32)) + (own_f3 w 4).toInt32 * 100) + (own_f3 w 5).toInt32 * 10) + (own_f3 w 6).toInt32 * 1) + (0 : Int32)) := rfl
  rw [r]
  clear l r h4 h5 h6
  generalize (own_f3 w 4).toInt32 = d4
  generalize (own_f3 w 5).toInt32 = d5
  generalize (own_f3 w 6).toInt32 = d6
  grind
theorem own_case_4_4 (w junk : Int64) : own_f5 (own_W w junk 4 4) 4 4 = own_T w 4 4 := by
  have h4 := own_in w junk (own_W w junk 4 4) 4 4 4 32 (by decide) (by decide) (by decide) (own_Wparts w junk 4 4).2.2.2.2.1
  have h5 := own_in w junk (own_W w junk 4 4) 5 4 4 40 (by decide) (by decide) (by decide) (own_Wparts w junk 4 4).2.2.2.2.2.1
  have h6 := own_in w junk (own_W w junk 4 4) 6 4 4 48 (by decide) (by decide) (by decide) (own_Wparts w junk 4 4).2.2.2.2.2.2.1
  have h7 := own_in w junk (own_W w junk 4 4) 7 4 4 56 (by decide) (by decide) (by decide) (own_Wparts w junk 4 4).2.2.2.2.2.2.2
  have l : own_f5 (own_W w junk 4 4) 4 4 = (10 * (10 * (10 * (10 * (0 : Int32) + own_by (own_W w junk 4 4) 4 - 48) + own_by (own_W w junk 4 4) 5 - 48) + own_by (own_W w junk 4 4) 6 - 48) + own_by (own_W w junk 4 4) 7 - 48) := rfl
  rw [l, h4, h5, h6, h7]
  have r : own_T w 4 4 = ((((((((0 : Int32) + (0 : Int32)) + (0 : Int32)) + (0 : Int32)) + (own_f3 w 4).toInt32 * 1000) + (own_f3 w 5).toInt32 * 100) + (own_f3 w 6).toInt32 * 10) + (own_f3 w 7).toInt32 * 1) := rfl
  rw [r]
  clear l r h4 h5 h6 h7
  generalize (own_f3 w 4).toInt32 = d4
  generalize (own_f3 w 5).toInt32 = d5
  generalize (own_f3 w 6).toInt32 = d6
  generalize (own_f3 w 7).toInt32 = d7
  grind
theorem own_case_5_0 (w junk : Int64) : own_f5 (own_W w junk 5 0) 5 0 = own_T w 5 0 := by
  rfl
theorem own_case_5_1 (w junk : Int64) : own_f5 (own_W w junk 5 1) 5 1 = own_T w 5 1 := by
  have h5 := own_in w junk (own_W w junk 5 1) 5 5 1 40 (by decide) (by decide) (by decide) (own_Wparts w junk 5 1).2.2.2.2.2.1
  have l : own_f5 (own_W w junk 5 1) 5 1 = (10 * (0 : Int32) + own_by (own_W w junk 5 1) 5 - 48) := rfl
  rw [l, h5]
  have r : own_T w 5 1 = ((((((((0 : Int32) + (0 : Int32)) + (0 : Int32)) + (0 : Int32)) + (0 : Int32)) + (own_f3 w 5).toInt32 * 1) + (0 : Int32)) + (0 : Int32)) := rfl
  rw [r]
  clear l r h5
  generalize (own_f3 w 5).toInt32 = d5
  grind
theorem own_case_5_2 (w junk : Int64) : own_f5 (own_W w junk 5 2) 5 2 = own_T w 5 2 := by
  have h5 := own_in w junk (own_W w junk 5 2) 5 5 2 40 (by decide) (by decide) (by decide) (own_Wparts w junk 5 2).2.2.2.2.2.1
  have h6 := own_in w junk (own_W w junk 5 2) 6 5 2 48 (by decide) (by decide) (by decide) (own_Wparts w junk 5 2).2.2.2.2.2.2.1
  have l : own_f5 (own_W w junk 5 2) 5 2 = (10 * (10 * (0 : Int32) + own_by (own_W w junk 5 2) 5 - 48) + own_by (own_W w junk 5 2) 6 - 48) := rfl
  rw [l, h5, h6]
  have r : own_T w 5 2 = ((((((((0 : Int32) + (0 : Int32)) + (0 : Int32)) + (0 : Int32)) + (0 : Int32)) + (own_f3 w 5).toInt32 * 10) + (own_f3 w 6).toInt32 * 1) + (0 : Int32)) := rfl
  rw [r]
  clear l r h5 h6
  generalize (own_f3 w 5).toInt32 = d5
  generalize (own_f3 w 6).toInt32 = d6
  grind
theorem own_case_5_3 (w junk : Int64) : own_f5 (own_W w junk 5 3) 5 3 = own_T w 5 3 := by
  have h5 := own_in w junk (own_W w junk 5 3) 5 5 3 40 (by decide) (by decide) (by decide) (own_Wparts w junk 5 3).2.2.2.2.2.1
  have h6 := own_in w junk (own_W w junk 5 3) 6 5 3 48 (by decide) (by decide) (by decide) (own_Wparts w junk 5 3).2.2.2.2.2.2.1
  have h7 := own_in w junk (own_W w junk 5 3) 7 5 3 56 (by decide) (by decide) (by decide) (own_Wparts w junk 5 3).2.2.2.2.2.2.2
  have l : own_f5 (own_W w junk 5 3) 5 3 = (10 * (10 * (10 * (0 : Int32) + own_by (own_W w junk 5 3) 5 - 48) + own_by (own_W w junk 5 3) 6 - 48) + own_by (own_W w junk 5 3) 7 - 48) := rfl
  rw [l, h5, h6, h7]
  have r : own_T w 5 3 = ((((((((0 : Int32) + (0 : Int32)) + (0 : Int32)) + (0 : Int32)) + (0 : Int32)) + (own_f3 w 5).toInt32 * 100) + (own_f3 w 6).toInt32 * 10) + (own_f3 w 7).toInt32 * 1) := rfl
  rw [r]
  clear l r h5 h6 h7
  generalize (own_f3 w 5).toInt32 = d5
  generalize (own_f3 w 6).toInt32 = d6
  generalize (own_f3 w 7).toInt32 = d7
  grind
theorem own_case_6_0 (w junk : Int64) : own_f5 (own_W w junk 6 0) 6 0 = own_T w 6 0 := by
  rfl
theorem own_case_6_1 (w junk : Int64) : own_f5 (own_W w junk 6 1) 6 1 = own_T w 6 1 := by
  have h6 := own_in w junk (own_W w junk 6 1) 6 6 1 48 (by decide) (by decide) (by decide) (own_Wparts w junk 6 1).2.2.2.2.2.2.1
  have l : own_f5 (own_W w junk 6 1) 6 1 = (10 * (0 : Int32) + own_by (own_W w junk 6 1) 6 - 48) := rfl
  rw [l, h6]
  have r : own_T w 6 1 = ((((((((0 : Int32) + (0 : Int32)) + (0 : Int32)) + (0 : Int32)) + (0 : Int32)) + (0 : Int32)) + (own_f3 w 6).toInt32 * 1) + (0 : Int32)) := rfl
  rw [r]
  clear l r h6
  generalize (own_f3 w 6).toInt32 = d6
  grind
theorem own_case_6_2 (w junk : Int64) : own_f5 (own_W w junk 6 2) 6 2 = own_T w 6 2 := by
  have h6 := own_in w junk (own_W w junk 6 2) 6 6 2 48 (by decide) (by decide) (by decide) (own_Wparts w junk 6 2).2.2.2.2.2.2.1
  have h7 := own_in w junk (own_W w junk 6 2) 7 6 2 56 (by decide) (by decide) (by decide) (own_Wparts w junk 6 2).2.2.2.2.2.2.2
  have l : own_f5 (own_W w junk 6 2) 6 2 = (10 * (10 * (0 : Int32) + own_by (own_W w junk 6 2) 6 - 48) + own_by (own_W w junk 6 2) 7 - 48) := rfl
  rw [l, h6, h7]
  have r : own_T w 6 2 = ((((((((0 : Int32) + (0 : Int32)) + (0 : Int32)) + (0 : Int32)) + (0 : Int32)) + (0 : Int32)) + (own_f3 w 6).toInt32 * 10) + (own_f3 w 7).toInt32 * 1) := rfl
  rw [r]
  clear l r h6 h7
  generalize (own_f3 w 6).toInt32 = d6
  generalize (own_f3 w 7).toInt32 = d7
  grind
theorem own_case_7_0 (w junk : Int64) : own_f5 (own_W w junk 7 0) 7 0 = own_T w 7 0 := by
  rfl
theorem own_case_7_1 (w junk : Int64) : own_f5 (own_W w junk 7 1) 7 1 = own_T w 7 1 := by
  have h7 := own_in w junk (own_W w junk 7 1) 7 7 1 56 (by decide) (by decide) (by decide) (own_Wparts w junk 7 1).2.2.2.2.2.2.2
  have l : own_f5 (own_W w junk 7 1) 7 1 = (10 * (0 : Int32) + own_by (own_W w junk 7 1) 7 - 48) := rfl
  rw [l, h7]
  have r : own_T w 7 1 = ((((((((0 : Int32) + (0 : Int32)) + (0 : Int32)) + (0 : Int32)) + (0 : Int32)) + (0 : Int32)) + (0 : Int32)) + (own_f3 w 7).toInt32 * 1) := rfl
  rw [r]
  clear l r h7
  generalize (own_f3 w 7).toInt32 = d7
  grind
theorem own_case_8_0 (w junk : Int64) : own_f5 (own_W w junk 8 0) 8 0 = own_T w 8 0 := by
  rfl
theorem own_cases (w junk : Int64) (F C : Nat) (h : F + C ≤ 8) : own_f5 (own_W w junk (Int32.ofNat F) (Int32.ofNat C)) (Int32.ofNat F) (Int32.ofNat C) = own_T w (Int32.ofNat F) (Int32.ofNat C) := by
  have hF : F = 0 ∨ F = 1 ∨ F = 2 ∨ F = 3 ∨ F = 4 ∨ F = 5 ∨ F = 6 ∨ F = 7 ∨ F = 8 := by omega
  rcases hF with rfl | rfl | rfl | rfl | rfl | rfl | rfl | rfl | rfl
  · have hC : C = 0 ∨ C = 1 ∨ C = 2 ∨ C = 3 ∨ C = 4 ∨ C = 5 ∨ C = 6 ∨ C = 7 ∨ C = 8 := by omega
    rcases hC with rfl | rfl | rfl | rfl | rfl | rfl | rfl | rfl | rfl
    · exact own_case_0_0 w junk
    · exact own_case_0_1 w junk
    · exact own_case_0_2 w junk
    · exact own_case_0_3 w junk
    · exact own_case_0_4 w junk
    · exact own_case_0_5 w junk
    · exact own_case_0_6 w junk
    · exact own_case_0_7 w junk
    · exact own_case_0_8 w junk
  · have hC : C = 0 ∨ C = 1 ∨ C = 2 ∨ C = 3 ∨ C = 4 ∨ C = 5 ∨ C = 6 ∨ C = 7 := by omega
    rcases hC with rfl | rfl | rfl | rfl | rfl | rfl | rfl | rfl
    · exact own_case_1_0 w junk
    · exact own_case_1_1 w junk
    · exact own_case_1_2 w junk
    · exact own_case_1_3 w junk
    · exact own_case_1_4 w junk
    · exact own_case_1_5 w junk
    · exact own_case_1_6 w junk
    · exact own_case_1_7 w junk
  · have hC : C = 0 ∨ C = 1 ∨ C = 2 ∨ C = 3 ∨ C = 4 ∨ C = 5 ∨ C = 6 := by omega
    rcases hC with rfl | rfl | rfl | rfl | rfl | rfl | rfl
    · exact own_case_2_0 w junk
    · exact own_case_2_1 w junk
    · exact own_case_2_2 w junk
    · exact own_case_2_3 w junk
    · exact own_case_2_4 w junk
    · exact own_case_2_5 w junk
    · exact own_case_2_6 w junk
  · have hC : C = 0 ∨ C = 1 ∨ C = 2 ∨ C = 3 ∨ C = 4 ∨ C = 5 := by omega
    rcases hC with rfl | rfl | rfl | rfl | rfl | rfl
    · exact own_case_3_0 w junk
    · exact own_case_3_1 w junk
    · exact own_case_3_2 w junk
    · exact own_case_3_3 w junk
    · exact own_case_3_4 w junk
    · exact own_case_3_5 w junk
  · have hC : C = 0 ∨ C = 1 ∨ C = 2 ∨ C = 3 ∨ C = 4 := by omega
    rcases hC with rfl | rfl | rfl | rfl | rfl
    · exact own_case_4_0 w junk
    · exact own_case_4_1 w junk
    · exact own_case_4_2 w junk
    · exact own_case_4_3 w junk
    · exact own_case_4_4 w junk
  · have hC : C = 0 ∨ C = 1 ∨ C = 2 ∨ C = 3 := by omega
    rcases hC with rfl | rfl | rfl | rfl
    · exact own_case_5_0 w junk
    · exact own_case_5_1 w junk
    · exact own_case_5_2 w junk
    · exact own_case_5_3 w junk
  · have hC : C = 0 ∨ C = 1 ∨ C = 2 := by omega
    rcases hC with rfl | rfl | rfl
    · exact own_case_6_0 w junk
    · exact own_case_6_1 w junk
    · exact own_case_6_2 w junk
  · have hC : C = 0 ∨ C = 1 := by omega
    rcases hC with rfl | rfl
    · exact own_case_7_0 w junk
    · exact own_case_7_1 w junk
  · have hC : C = 0 := by omega
    subst hC
    exact own_case_8_0 w junk
theorem own_lit {x : Int32} (h : 0 ≤ x.toInt ∧ x.toInt ≤ 8) : x = Int32.ofNat x.toInt.toNat := by
  apply Int32.toInt_inj.mp
  rw [Int32.toInt_ofNat_of_lt (by omega)]
  omega
theorem own_fin (w junk : Int64) (f c : Int32) (h : own_small f c) : (if own_f5 (own_W w junk f c) f c = own_T w f c then (1 : Int32) else 0) = 1 := by
  obtain ⟨h1, h2, h3⟩ := h
  refine if_pos ?_
  have e := own_cases w junk f.toInt.toNat c.toInt.toNat (by omega)
  rw [← own_lit (x := f) (by omega), ← own_lit (x := c) (by omega)] at e
  exact e
theorem own_law (q0 : Int64) (q1 : Int64) (p2 : Int32) (p3 : Int32) : own_f0 q0 q1 p2 p3 = 1 := own_fin q0 q1 _ _ (own_count (own_first p2) p3)
set_option maxRecDepth 65536 in
set_option maxHeartbeats 40000000 in
theorem comes_1 {Post : Tables → Env → Array Value → State → Outcome → State → Prop} (hpost : ∀ tb e args s v u, (limb_1_1.after args s (.returned v) u = true ∧ limb_1_2.after args s (.returned v) u = true ∧ True) → FrameEnd s (.returned v) u (Jvm.fieldLocs frame_1_writes args s ++ Jvm.arrayLocs frame_1_arrays args s ++ Jvm.staticLocs frame_1_statics s) 24 192 → Post tb e args s (.returned v) u) :
    ArmFor flags0 classFile x code maxLocals ret World_1 tables_1 room_1 Calls_1 rest_1 Pre_1 Post := by
  intro l hfl _ _ p e ha hc hk s m args below hf hA hF happ hP
  obtain ⟨hcalls, hrest, hpre⟩ := hP
  obtain ⟨-, -, -, hnamed, -, -, -, hat⟩ := (Spec.applies_iff hf).mp happ
  obtain ⟨hg, hn⟩ := and_e (Cond.before_iff.mp (show (Jvm.Cond.and given_1 narrow_1).before args s = true from hpre))
  obtain ⟨g1, g2⟩ := and_e hg
  obtain ⟨g3, g4⟩ := and_e g2
  obtain ⟨g5, g6⟩ := and_e g4
  obtain ⟨g7, g8⟩ := and_e g6
  obtain ⟨w0, w1, w2, w3, rfl⟩ : ∃ w0 w1 w2 w3 : Value, args = #[w0, w1, w2, w3] := by
    have hs : args.size = 4 := by simpa [Cond.value, given_1] using g1
    obtain ⟨L⟩ := args
    match L, hs with
    | [w0, w1, w2, w3], _ => exact ⟨w0, w1, w2, w3, rfl⟩
  have hw := fun d (hd : d ∈ tables_1) => atoms_spec (ws := Jvm.Cond.code x code maxLocals ret :: tables_1) hat d (List.mem_cons_of_mem _ hd)
  obtain ⟨i0, ei0⟩ := isL_v g3
  obtain rfl : w0 = (.long i0) := Option.some.inj ei0
  obtain ⟨i1, ei1⟩ := isL_v g5
  obtain rfl : w1 = (.long i1) := Option.some.inj ei1
  obtain ⟨i2, ei2⟩ := is_v g7
  obtain rfl : w2 = (.int i2) := Option.some.inj ei2
  obtain ⟨i3, ei3⟩ := is_v g8
  obtain rfl : w3 = (.int i3) := Option.some.inj ei3
  have hrm := rm0 l s _ hw tables_1 i0 i1 i2 i3 s.heap s.heap.size (Nat.le_refl _)
  rw [own_law i0 i1 i2 i3] at hrm
  obtain ⟨n, o, h1, h2, h3, _, L, rfl, ⟨rfl, N⟩, hq⟩ := hrm p e ha hc hk s m _ below hf ((Spec.applies_iff_loose hf).mp happ).1 ⟨rfl, State.Warmed39.refl s, rfl⟩ trivial
  refine ⟨n, _, h1, h2, h3, hpost _ _ _ _ _ _ ⟨Cond.after_iff.mpr rfl, Cond.after_iff.mpr (eq_i res_at (Term.int_eval (1)) rfl), trivial⟩ ⟨hq.1, hq.2.1, (hq.2.2.sift fun y hy => Or.inr (N y hy)).mono (by decide) (by decide)⟩⟩
theorem main_1_1 : Claimed_1_1 := comes_1 fun _ _ _ _ _ _ h hF => ⟨h.1, hF⟩
theorem main_1_2 : Claimed_1_2 := comes_1 fun _ _ _ _ _ _ h hF => ⟨h.2.1, hF⟩
end Jvm.Pilot.@@N@@
namespace Jvm.Pilot.@@N@@
open Jvm Jvm.ClassFile Sem Op Lib Jvm.Free Jvm.Stand Jvm.Pilot.@@N@@.Jvm.D
/-! MADE BY PROGRAM (witnessworld.py) out of the Statement's table words and the real class files: 9 classes; the members and pool entries that the words name. The judged class is class 1, her method 5. -/
namespace start1
open Jvm.ClassFile
def u (s : String) : CpInfo := .utf8 (stringToUtf16 s)
/-- a pool by its gaps: so many unusable entries, then the entry; so many at the end -/
def gap : Nat → List CpInfo → List CpInfo
  | 0, r => r
  | n + 1, r => .unusable :: gap n r
def poolList (es : List (Nat × CpInfo)) (last : Nat) : List CpInfo := es.foldr (fun e r => gap e.1 (e.2 :: r)) (gap last [])
def pool (es : List (Nat × CpInfo)) (last : Nat) : Array CpInfo := ⟨poolList es last⟩
def fileOf (pool : Array CpInfo) (this : Nat) (attrs : Array Attribute := #[]) (ms : Array MethodInfo := #[]) (fl : Nat := 33) (sup : Nat := 0) (ifs : Array Nat := #[]) (fds : Array FieldInfo := #[]) : ClassFile where
  minorVersion := 0
  majorVersion := 65
  constantPool := pool
  accessFlags := fl
  thisClass := this
  superClass := sup
  interfaces := ifs
  fields := fds
  methods := ms
  attributes := attrs
def plain (name : String) (sup : Option ClassId) : Class where
  name := name
  kind := .ordinary
  loader := none
  accessFlags := 33
  super := sup
  interfaces := #[]
  cf := none
  fields := #[]
  methods := #[]
  instanceTypes := #[]
  staticTypes := #[]
  resolved := #[]
  callSites := []
  init := .initialized
  statics := none
  mirror := none

def pool0 : Array CpInfo := pool [(5, u "<init>"), (0, u "()V"), (1, .class_ 10), (1, u "java/lang/Object")] 113

def k0m0 : Method := { name := "<init>", desc := "()V", sig := { parameters := [], returnType := none }, accessFlags := 1, code := none }
/-- java/lang/Object -/
def k0 : Class := { plain "java/lang/Object" none with
  accessFlags := 33
  interfaces := #[]
  cf := some (fileOf pool0 8 #[] #[{ accessFlags := 1, nameIndex := 5, descriptorIndex := 6, attributes := #[] }] 33 0 #[] #[])
  fields := #[]
  methods := #[k0m0]
  instanceTypes := #[]
  staticTypes := #[]
  resolved := Array.replicate 124 none
  statics := none }

def pool1 : Array CpInfo := pool [(2, .class_ 4), (1, u "java/lang/Object"), (0, u "<init>"), (0, u "()V"), (0, .long 255), (1, .long 10), (1, .methodref 12 13), (0, .class_ 14), (0, .nameAndType 15 16), (0, u "com/example/kolektyv/kolektyv/records/BytesDigitsPinLaw"), (0, u "inRange"), (0, u "(III)Z"), (0, .long 48), (1, .methodref 12 20), (0, .nameAndType 21 22), (0, u "digitAt"), (0, u "(JI)J"), (0, .integer 100000), (0, .integer 1000000), (0, .integer 10000000), (0, .integer 2147483647), (0, .methodref 12 28), (0, .nameAndType 29 30), (0, u "byteAt"), (0, u "(JJIII)J"), (0, .methodref 12 32), (0, .nameAndType 33 34), (0, u "term"), (0, u "(JIII)I"), (0, .methodref 36 37), (0, .class_ 38), (0, .nameAndType 39 40), (0, u "com/example/kolektyv/kolektyv/records/Bytes"), (0, u "digits"), (0, u "(JII)I"), (3, u "law"), (0, u "(JJII)Z")] 2

def k1m0 : Method := { name := "<init>", desc := "()V", sig := { parameters := [], returnType := none }, accessFlags := 2, code := none }
def k1c1 : Code := { maxStack := 3, maxLocals := 3, code := method_2_code, exceptionTable := #[], attributes := #[] }
def k1m1 : Method := { name := "inRange", desc := "(III)Z", sig := { parameters := [.int, .int, .int], returnType := some .boolean }, accessFlags := 10, code := some k1c1 }
def k1c2 : Code := { maxStack := 4, maxLocals := 3, code := method_3_code, exceptionTable := #[], attributes := #[] }
def k1m2 : Method := { name := "digitAt", desc := "(JI)J", sig := { parameters := [.long, .int], returnType := some .long }, accessFlags := 10, code := some k1c2 }
def k1c3 : Code := { maxStack := 5, maxLocals := 9, code := method_4_code, exceptionTable := #[], attributes := #[] }
def k1m3 : Method := { name := "byteAt", desc := "(JJIII)J", sig := { parameters := [.long, .long, .int, .int, .int], returnType := some .long }, accessFlags := 10, code := some k1c3 }
def k1c4 : Code := { maxStack := 4, maxLocals := 6, code := method_5_code, exceptionTable := #[], attributes := #[] }
def k1m4 : Method := { name := "term", desc := "(JIII)I", sig := { parameters := [.long, .int, .int, .int], returnType := some .int }, accessFlags := 10, code := some k1c4 }
def k1c5 : Code := { maxStack := 9, maxLocals := 11, code := code, exceptionTable := #[], attributes := #[] }
def k1m5 : Method := { name := "law", desc := "(JJII)Z", sig := { parameters := [.long, .long, .int, .int], returnType := some .boolean }, accessFlags := 9, code := some k1c5 }
/-- com/example/kolektyv/kolektyv/records/BytesDigitsPinLaw -/
def k1 : Class := { plain "com/example/kolektyv/kolektyv/records/BytesDigitsPinLaw" (some 0) with
  accessFlags := 49
  interfaces := #[]
  cf := some (fileOf pool1 12 #[] #[{ accessFlags := 2, nameIndex := 5, descriptorIndex := 6, attributes := #[] }, { accessFlags := 10, nameIndex := 15, descriptorIndex := 16, attributes := #[] }, { accessFlags := 10, nameIndex := 21, descriptorIndex := 22, attributes := #[] }, { accessFlags := 10, nameIndex := 29, descriptorIndex := 30, attributes := #[] }, { accessFlags := 10, nameIndex := 33, descriptorIndex := 34, attributes := #[] }, { accessFlags := 9, nameIndex := 44, descriptorIndex := 45, attributes := #[] }] 49 2 #[] #[])
  fields := #[]
  methods := #[k1m0, k1m1, k1m2, k1m3, k1m4, k1m5]
  instanceTypes := #[]
  staticTypes := #[]
  resolved := Array.replicate 48 none
  statics := none }

def pool2 : Array CpInfo := pool [(2, .class_ 4), (1, u "java/lang/Object"), (0, u "<init>"), (0, u "()V"), (1, .class_ 10), (1, u "com/example/kolektyv/kolektyv/records/Bytes"), (0, u "WORDS"), (0, u "Ljava/lang/invoke/VarHandle;"), (12, .long 255), (30, u "HIGH"), (0, u "J"), (1, u "LOW7"), (2, u "ONES"), (0, u "HIGH_HALVES"), (0, u "ZEROS"), (0, u "SIXES"), (5, u "digits"), (0, u "(JII)I")] 5

def k2m0 : Method := { name := "<init>", desc := "()V", sig := { parameters := [], returnType := none }, accessFlags := 2, code := none }
def k2c1 : Code := { maxStack := 5, maxLocals := 6, code := prog_16_method_4_code, exceptionTable := #[], attributes := #[] }
def k2m1 : Method := { name := "digits", desc := "(JII)I", sig := { parameters := [.long, .int, .int], returnType := some .int }, accessFlags := 8, code := some k2c1 }
/-- com/example/kolektyv/kolektyv/records/Bytes -/
def k2 : Class := { plain "com/example/kolektyv/kolektyv/records/Bytes" (some 0) with
  accessFlags := 48
  interfaces := #[]
  cf := some (fileOf pool2 8 #[] #[{ accessFlags := 2, nameIndex := 5, descriptorIndex := 6, attributes := #[] }, { accessFlags := 8, nameIndex := 71, descriptorIndex := 72, attributes := #[] }] 48 2 #[] #[{ accessFlags := 24, nameIndex := 56, descriptorIndex := 57, attributes := #[] }, { accessFlags := 24, nameIndex := 59, descriptorIndex := 57, attributes := #[] }, { accessFlags := 26, nameIndex := 62, descriptorIndex := 57, attributes := #[] }, { accessFlags := 26, nameIndex := 63, descriptorIndex := 57, attributes := #[] }, { accessFlags := 26, nameIndex := 64, descriptorIndex := 57, attributes := #[] }, { accessFlags := 26, nameIndex := 65, descriptorIndex := 57, attributes := #[] }, { accessFlags := 26, nameIndex := 11, descriptorIndex := 12, attributes := #[] }])
  fields := #[{ name := "HIGH", type := .long, accessFlags := 24, slot := 0, constantValue := 0 }, { name := "LOW7", type := .long, accessFlags := 24, slot := 1, constantValue := 0 }, { name := "ONES", type := .long, accessFlags := 26, slot := 2, constantValue := 0 }, { name := "HIGH_HALVES", type := .long, accessFlags := 26, slot := 3, constantValue := 0 }, { name := "ZEROS", type := .long, accessFlags := 26, slot := 4, constantValue := 0 }, { name := "SIXES", type := .long, accessFlags := 26, slot := 5, constantValue := 0 }, { name := "WORDS", type := (.object "java/lang/invoke/VarHandle"), accessFlags := 26, slot := 6, constantValue := 0 }]
  methods := #[k2m0, k2m1]
  instanceTypes := #[]
  staticTypes := #[.long, .long, .long, .long, .long, .long, (.object "java/lang/invoke/VarHandle")]
  resolved := Array.replicate 78 none
  statics := none }

def pool3 : Array CpInfo := pool [(1, u "java/lang/Cloneable"), (0, .class_ 1), (0, u "java/lang/Object"), (0, .class_ 3)] 3

/-- java/lang/Cloneable -/
def k3 : Class := { plain "java/lang/Cloneable" (some 0) with
  accessFlags := 1537
  interfaces := #[]
  cf := some (fileOf pool3 2 #[] #[] 1537 4 #[] #[])
  fields := #[]
  methods := #[]
  instanceTypes := #[]
  staticTypes := #[]
  resolved := Array.replicate 8 none
  statics := none }

def pool4 : Array CpInfo := pool [(1, u "java/io/Serializable"), (0, .class_ 1), (0, u "java/lang/Object"), (0, .class_ 3)] 3

/-- java/io/Serializable -/
def k4 : Class := { plain "java/io/Serializable" (some 0) with
  accessFlags := 1537
  interfaces := #[]
  cf := some (fileOf pool4 2 #[] #[] 1537 4 #[] #[])
  fields := #[]
  methods := #[]
  instanceTypes := #[]
  staticTypes := #[]
  resolved := Array.replicate 8 none
  statics := none }

/-- the primitive byte -/
def k5 : Class := { plain "byte" none with kind := .primitive 'B', accessFlags := 0x411 }
/-- [B -/
def k6 : Class := { plain "[B" (some 0) with kind := .array 5 .byte, interfaces := #[3, 4], accessFlags := 1041 }

/-- the primitive int -/
def k7 : Class := { plain "int" none with kind := .primitive 'I', accessFlags := 0x411 }
/-- [I -/
def k8 : Class := { plain "[I" (some 0) with kind := .array 7 .int, interfaces := #[3, 4], accessFlags := 1041 }

def heap : Heap := #[]
def classes : Array Class := #[k0, k1, k2, k3, k4, k5, k6, k7, k8]
def interned : List (Array UInt16 × Addr) := []
def slotsUsed : Nat := 0
def theMethod : MethodId := ⟨1, 5⟩
def args0 : Array Value := #[.long 1, .long 2, .int 1, .int 1]
def aboutOver (below : List Frame) : State where
  vm := { classes := classes, interned := interned.toArray }
  heap := heap
  slotsUsed := slotsUsed
  threads := #[{ frames := .invoking theMethod args0 :: below }]
def below0 : List Frame := [.native { method := ⟨0, 0⟩, args := #[] }]
def about1 : State := aboutOver below0
def p0 : Program := .bare "" "" ""
def e0 : Env := launch0.env 0 0 0
theorem w_frames : about1.frames = Frame.invoking theMethod args0 :: below0 := rfl
set_option maxRecDepth 65536 in
theorem w_args : argsFit about1.vm theMethod args0 = true := by decide +kernel
set_option maxRecDepth 65536 in
theorem w_heap : heapFits about1 = true := by decide +kernel
set_option maxRecDepth 65536 in
theorem w_runnable : about1.curStatus? = some .runnable := by decide +kernel
set_option maxRecDepth 65536 in
theorem w_alone : about1.alone = true := by decide +kernel
set_option maxRecDepth 65536 in
theorem w_named : about1.methodNamed? x = some theMethod := by decide +kernel
set_option maxRecDepth 65536 in
theorem w_hears : about1.hears theMethod below0 = true := by decide +kernel
set_option maxRecDepth 65536 in
theorem w_ripe : about1.ripe theMethod args0 below0 = true := by decide +kernel
theorem w_running : about1.status = .running := rfl
set_option maxRecDepth 65536 in
theorem w_room : about1.hasRoom e0.platform room_1 = true :=
  launch0.hasRoom_least _ room_1 (by decide +kernel) (by decide +kernel) (by decide +kernel) (by decide +kernel) (by decide +kernel) (by decide +kernel)
theorem allAtoms_all (ts : List Jvm.Cond) (a : Array Jvm.Value) (st : Jvm.State) : (allAtoms ts).before a st = ts.all (fun c => c.before a st) := by
  induction ts with
  | nil => rfl
  | cons c t ih =>
    show (Jvm.Cond.and c (allAtoms t)).before a st = _
    rw [Jvm.Cond.before_and, ih, List.all_cons]
def words1 : List Jvm.Cond := Jvm.Cond.code x code maxLocals ret :: tables_1
/-- a 'code' word, met by the world's own term for the bytes: nothing is compared byte by byte -/
theorem code_word {y : MethodName} {bytes : ByteArray} {mx : Nat} {rt : Option FieldType} {a : Array Value} {s : State} {m : MethodId} {meth : Method} {c : Code} (h1 : s.methodNamed? y = some m) (h2 : s.vm.method? m = some meth) (h3 : meth.code = some c) (h4 : c.code = bytes)
    (h5 : (c.maxLocals == mx && c.exceptionTable.isEmpty && decide (c.maxStack ≤ mostOperands) && decide (meth.sig.returnType = rt) && !meth.locks && decide (parseMethodDescriptor y.desc = some meth.sig)) = true) : (Jvm.Cond.code y bytes mx rt).before a s = true := by
  simp only [Bool.and_eq_true, beq_iff_eq, Bool.not_eq_true', decide_eq_true_eq] at h5
  obtain ⟨⟨⟨⟨⟨g1, g2⟩, g3⟩, g4⟩, g5⟩, g6⟩ := h5
  simp [Cond.before, Cond.holds, Cond.value, h1, h2, h3, h4, g1, g2, g3, g4, g5, g6]
def isCode : Jvm.Cond → Bool
  | .code _ _ _ _ => true
  | _ => false
theorem all_split {L : List Jvm.Cond} {P : Jvm.Cond → Bool} (h1 : L.all (fun c => isCode c || P c) = true) (h2 : ∀ c ∈ L.filter isCode, P c = true) : L.all P = true := by
  refine List.all_eq_true.mpr fun c hc => ?_
  have h := List.all_eq_true.mp h1 c hc
  rcases Bool.eq_false_or_eq_true (isCode c) with hi | hi
  · exact h2 c (List.mem_filter.mpr ⟨hc, hi⟩)
  · simpa [hi] using h
set_option maxRecDepth 65536 in
theorem w_c0 : (Jvm.Cond.code x code maxLocals ret).before args0 about1 = true := code_word (m := ⟨1, 5⟩) (meth := k1m5) (c := k1c5) (by decide +kernel) rfl rfl rfl (by decide +kernel)
set_option maxRecDepth 65536 in
theorem w_c1 : (Jvm.Cond.code ({ cls := "com/example/kolektyv/kolektyv/records/BytesDigitsPinLaw", name := "byteAt", desc := "(JJIII)J" } : Jvm.MethodName) method_4_code (9 : Nat) (Option.some Jvm.ClassFile.FieldType.long)).before args0 about1 = true := code_word (m := ⟨1, 3⟩) (meth := k1m3) (c := k1c3) (by decide +kernel) rfl rfl rfl (by decide +kernel)
set_option maxRecDepth 65536 in
theorem w_c2 : (Jvm.Cond.code ({ cls := "com/example/kolektyv/kolektyv/records/BytesDigitsPinLaw", name := "inRange", desc := "(III)Z" } : Jvm.MethodName) method_2_code (3 : Nat) (Option.some Jvm.ClassFile.FieldType.boolean)).before args0 about1 = true := code_word (m := ⟨1, 1⟩) (meth := k1m1) (c := k1c1) (by decide +kernel) rfl rfl rfl (by decide +kernel)
set_option maxRecDepth 65536 in
theorem w_c3 : (Jvm.Cond.code ({ cls := "com/example/kolektyv/kolektyv/records/BytesDigitsPinLaw", name := "digitAt", desc := "(JI)J" } : Jvm.MethodName) method_3_code (3 : Nat) (Option.some Jvm.ClassFile.FieldType.long)).before args0 about1 = true := code_word (m := ⟨1, 2⟩) (meth := k1m2) (c := k1c2) (by decide +kernel) rfl rfl rfl (by decide +kernel)
set_option maxRecDepth 65536 in
theorem w_c4 : (Jvm.Cond.code ({ cls := "com/example/kolektyv/kolektyv/records/BytesDigitsPinLaw", name := "term", desc := "(JIII)I" } : Jvm.MethodName) method_5_code (6 : Nat) (Option.some Jvm.ClassFile.FieldType.int)).before args0 about1 = true := code_word (m := ⟨1, 4⟩) (meth := k1m4) (c := k1c4) (by decide +kernel) rfl rfl rfl (by decide +kernel)
set_option maxRecDepth 65536 in
theorem w_c5 : (Jvm.Cond.code ({ cls := "com/example/kolektyv/kolektyv/records/Bytes", name := "digits", desc := "(JII)I" } : Jvm.MethodName) prog_16_method_4_code (6 : Nat) (Option.some Jvm.ClassFile.FieldType.int)).before args0 about1 = true := code_word (m := ⟨2, 1⟩) (meth := k2m1) (c := k2c1) (by decide +kernel) rfl rfl rfl (by decide +kernel)
def codes1 : List Jvm.Cond := [Jvm.Cond.code x code maxLocals ret, Jvm.Cond.code ({ cls := "com/example/kolektyv/kolektyv/records/BytesDigitsPinLaw", name := "byteAt", desc := "(JJIII)J" } : Jvm.MethodName) method_4_code (9 : Nat) (Option.some Jvm.ClassFile.FieldType.long), Jvm.Cond.code ({ cls := "com/example/kolektyv/kolektyv/records/BytesDigitsPinLaw", name := "inRange", desc := "(III)Z" } : Jvm.MethodName) method_2_code (3 : Nat) (Option.some Jvm.ClassFile.FieldType.boolean), Jvm.Cond.code ({ cls := "com/example/kolektyv/kolektyv/records/BytesDigitsPinLaw", name := "digitAt", desc := "(JI)J" } : Jvm.MethodName) method_3_code (3 : Nat) (Option.some Jvm.ClassFile.FieldType.long), Jvm.Cond.code ({ cls := "com/example/kolektyv/kolektyv/records/BytesDigitsPinLaw", name := "term", desc := "(JIII)I" } : Jvm.MethodName) method_5_code (6 : Nat) (Option.some Jvm.ClassFile.FieldType.int), Jvm.Cond.code ({ cls := "com/example/kolektyv/kolektyv/records/Bytes", name := "digits", desc := "(JII)I" } : Jvm.MethodName) prog_16_method_4_code (6 : Nat) (Option.some Jvm.ClassFile.FieldType.int)]
set_option maxRecDepth 65536 in
theorem codes_eq : words1.filter isCode = codes1 := rfl
theorem w_codes : ∀ c ∈ words1.filter isCode, c.before args0 about1 = true := by
  rw [codes_eq]
  intro c hc
  simp only [codes1, List.mem_cons, List.not_mem_nil, or_false] at hc
  rcases hc with rfl | rfl | rfl | rfl | rfl | rfl
  · exact w_c0
  · exact w_c1
  · exact w_c2
  · exact w_c3
  · exact w_c4
  · exact w_c5
set_option maxRecDepth 65536 in
theorem w_t1 : (words1.take 24).all (fun c => isCode c || c.before args0 about1) = true := by decide +kernel
set_option maxRecDepth 65536 in
theorem w_t2 : (words1.drop 24).all (fun c => isCode c || c.before args0 about1) = true := by decide +kernel
theorem w_tables : (allAtoms (Jvm.Cond.code x code maxLocals ret :: tables_1)).before args0 about1 = true := by
  rw [allAtoms_all]
  show words1.all (fun c => c.before args0 about1) = true
  refine all_split ?_ w_codes
  rw [← List.take_append_drop 24 words1, List.all_append, w_t1, w_t2]
  rfl
set_option maxRecDepth 65536 in
theorem w_case : (Jvm.Cond.and given_1 narrow_1).before args0 about1 = true := by decide +kernel
theorem w_applies : (headSpec (Jvm.Cond.code x code maxLocals ret :: tables_1) room_1).applies x e0.platform about1 = true :=
  (Spec.applies_iff w_frames).mpr ⟨w_running, w_runnable, w_alone, w_named, w_hears, w_ripe, w_room, w_tables⟩
theorem atStart : AtStart classFile x code maxLocals ret World_1 tables_1 room_1 Calls_1 rest_1 Pre_1 launch0 p0 e0 about1 theMethod args0 below0 :=
  ⟨lists_1, trivial, launch0.admits_env _ _ _, launch0.least_env, fairChoices_fair.cas, fairChoices_fair.clock, w_frames, w_args, w_heap, w_applies, trivial, trivial, w_case⟩
end start1
theorem witness_1 : WitnessClaimed_1 := ⟨start1.p0, start1.e0, start1.about1, start1.theMethod, start1.args0, start1.below0, start1.atStart⟩
end Jvm.Pilot.@@N@@
