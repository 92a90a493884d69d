import JvmDerived
import JvmDerived.Pilot.@@N@@Statement
import JvmDerived.Pilot.@@N@@Code
set_option linter.unusedVariables false
set_option linter.unusedSimpArgs false
@@BLOCK:NumsL.lean.txt@@
namespace Jvm.RoadKit
open Sem ClassFile Op Lib Jvm.Stand Jvm.Free Jvm.LawKit
section New
variable {p : Program} {l : Launch} {e : Env} {R : Room} {s : State} {m : MethodId} {args : Array Value} {below : List Frame} {meth : Method} {c : Code} {T : State} {locs : List Loc} {cells slots : Nat}
theorem retI (X : Stand p l e R s m args below meth c T locs cells slots) (hx : p.tables.exec = Jvm.exec) {pc : Nat} {Ls : Array Slot} {z : Int32} {rest : List Value} (hret : meth.sig.returnType = some .int) (hd : decode c.code pc = .ok (.ireturn, 1)) {fs : List Frame}
    (hl : ∀ (f : JFrame) (acts : List Action), f.method = m → f.locked = none → f.entered = [] → (doReturn e (T.setTop f) acts (some (.int z))).1 = T.setFrames fs) : Steps p.tables e below (T.setTop (mkF m pc Ls (.int z :: rest))) (T.setFrames fs) := by
  have hm' : T.vm.method? m = some meth := X.method'
  have hn : narrow .int (.int z) = .int z := rfl
  show Steps p.tables e below (T.setTop { method := m, pc := pc, locals := Ls, stack := _ :: rest, locked := none }) _
  jvm_step X.here [X.here.top, hx, hd, hm', hret, hn]
  first | (intro acts; rw [hl _ acts rfl rfl rfl]) | rw [hl _ _ rfl rfl rfl]
  exact Steps.refl _
end New
end Jvm.RoadKit
namespace Jvm.Pilot.@@N@@
open Jvm Jvm.ClassFile Sem Op Lib Jvm.Free Jvm.Stand Jvm.LawKit Jvm.RoadKit Bundle Jvm.Pilot.@@N@@.Jvm.D
section Own
variable {p : Program} {l : Launch} {e : Env} {R : Room} {s : State} {m : MethodId} {args : Array Value} {below : List Frame} {meth : Method} {c : Code} {T : State} {locs : List Loc} {cells slots : Nat}
/-- the run goes on from S to its end, and P holds there -/
def own_Goes (tb : Tables) (e : Env) (below : List Frame) (S : State) (P : State → Outcome → Prop) : Prop :=
  ∃ s₂ o, Steps tb e below S s₂ ∧ s₂.status = .running ∧ Ended s₂ below o ∧ P s₂ o
theorem own_step {tb : Tables} {S S' : State} {P : State → Outcome → Prop} (h : ∀ t, Steps tb e below S' t → Steps tb e below S t) (k : own_Goes tb e below S' P) : own_Goes tb e below S P := by
  obtain ⟨s₂, o, h1, h2⟩ := k
  exact ⟨s₂, o, h _ h1, h2⟩
theorem own_enter {tb : Tables} {g g' : JFrame} {P : State → Outcome → Prop} (q : g = g') (k : own_Goes tb e below (T.setTop g') P) : own_Goes tb e below (T.setTop g) P := q ▸ k
def own_P (s : State) (Q : Option Value → Heap → List Loc → Prop) (C K : Nat) : State → Outcome → Prop := fun U o => ∃ v L, o = .returned v ∧ Q v U.heap L ∧ FrameEnd s o U L C K
/-- a body that writes nothing -/
def own_Qp (w : Option Value) (h0 : Heap) (v : Option Value) (h : Heap) (L : List Loc) : Prop := v = w ∧ L = [] ∧ h = h0
/-- a body that makes cells and writes none that stood before -/
def own_Qa (w : Option Value) (h0 : Heap) (n0 : Nat) (v : Option Value) (h : Heap) (L : List Loc) : Prop := v = w ∧ Fr n0 L ∧ Keep h0 h []
/-- the law -/
def own_Ql (w : Option Value) (n0 : Nat) (v : Option Value) (h : Heap) (L : List Loc) : Prop := v = w ∧ Fr n0 L
variable {Q : Option Value → Heap → List Loc → Prop} {C K : Nat}
theorem own_retI (X : Stand p l e R s m args below meth c T locs cells slots) (hx : p.tables.exec = Jvm.exec) {pc : Nat} {Ls : Array Slot} {z : Int32} {rest : List Value} (hret : meth.sig.returnType = some .int) (hd : decode c.code pc = .ok (.ireturn, 1)) (hk : meth.locks = false)
    (hQ : Q (some (.int z)) T.heap locs) (hc : cells ≤ C) (hs : slots ≤ K) : own_Goes p.tables e below (T.setTop (mkF m pc Ls (.int z :: rest))) (own_P s Q C K) := by
  obtain ⟨fs, hr, hrun, hended, hW, hsame⟩ := X.leave (v := some (.int z)) (fun h => by rw [hret] at h; cases h) hk
  exact ⟨_, _, retI X hx hret hd hr, hrun, hended, _, _, rfl, hQ, ⟨_, rfl⟩, hW, hsame.mono hc hs⟩
theorem own_retN (X : Stand p l e R s m args below meth c T locs cells slots) (hx : p.tables.exec = Jvm.exec) {pc : Nat} {Ls : Array Slot} {z : Int32} {t : FieldType} {rest : List Value} (hret : meth.sig.returnType = some t) (ht : t = .boolean ∨ t = .byte ∨ t = .char ∨ t = .short) (hd : decode c.code pc = .ok (.ireturn, 1)) (hk : meth.locks = false)
    {w : Int32} (hw : nar t z = w) (hQ : Q (some (.int w)) T.heap locs) (hc : cells ≤ C) (hs : slots ≤ K) : own_Goes p.tables e below (T.setTop (mkF m pc Ls (.int z :: rest))) (own_P s Q C K) := by
  subst hw
  obtain ⟨fs, hr, hrun, hended, hW, hsame⟩ := X.leave (v := some (.int (nar t z))) (fun h => by rw [hret] at h; cases h) hk
  exact ⟨_, _, retN X hx hret ht hd hr, hrun, hended, _, _, rfl, hQ, ⟨_, rfl⟩, hW, hsame.mono hc hs⟩
theorem own_retJ (X : Stand p l e R s m args below meth c T locs cells slots) (hx : p.tables.exec = Jvm.exec) {pc : Nat} {Ls : Array Slot} {z : Int64} (hret : meth.sig.returnType = some .long) (hd : decode c.code pc = .ok (.lreturn, 1)) (hk : meth.locks = false)
    (hQ : Q (some (.long z)) T.heap locs) (hc : cells ≤ C) (hs : slots ≤ K) : own_Goes p.tables e below (T.setTop (mkF m pc Ls [.long z])) (own_P s Q C K) := by
  obtain ⟨fs, hr, hrun, hended, hW, hsame⟩ := X.leave (v := some (.long z)) (fun h => by rw [hret] at h; cases h) hk
  exact ⟨_, _, X.lreturnOut hx hret hd hr, hrun, hended, _, _, rfl, hQ, ⟨_, rfl⟩, hW, hsame.mono hc hs⟩
theorem own_retV (X : Stand p l e R s m args below meth c T locs cells slots) (hx : p.tables.exec = Jvm.exec) {pc : Nat} {Ls : Array Slot} (hret : meth.sig.returnType = none) (hd : decode c.code pc = .ok (.return_, 1)) (hk : meth.locks = false)
    (hQ : Q none T.heap locs) (hc : cells ≤ C) (hs : slots ≤ K) : own_Goes p.tables e below (T.setTop (mkF m pc Ls [])) (own_P s Q C K) := by
  obtain ⟨fs, hr, hrun, hended, hW, hsame⟩ := X.leave (v := none) (fun _ => rfl) hk
  exact ⟨_, _, X.returnOut hx hret hd hr, hrun, hended, _, _, rfl, hQ, ⟨_, rfl⟩, hW, hsame.mono hc hs⟩
theorem own_flat (X : Stand p l e R s m args below meth c T (locs ++ []) (cells + 0) (slots + 0)) : Stand p l e R s m args below meth c T locs cells slots := List.append_nil locs ▸ X
end Own

section OwnArr
variable {p : Program} {l : Launch} {e : Env} {R : Room} {s : State} {m : MethodId} {args : Array Value} {below : List Frame} {meth : Method} {c : Code} {T : State} {locs : List Loc} {cells slots : Nat} {Z : State} {a0 : Array Value} {h h' : Heap} {a : Addr} {k : ClassId} {ty : FieldType} {n : Int32} {xs : List Int32}
/-- an array of ints (bytes, chars ..) that the road has made: xs are its elements -/
def own_A (Z : State) (h : Heap) (a : Addr) (k : ClassId) (ty : FieldType) (n : Int32) (xs : List Int32) : Prop := Arv Z h a k ty n (xs.map Value.int) (.int 0)
theorem own_A.keep {ws : List Addr} (V : own_A Z h a k ty n xs) (K : Keep h h' ws) (q : a ∉ ws) : own_A Z h' a k ty n xs := Arv.keep V K q
theorem own_newA (X : Stand p l e R s m args below meth c T locs cells slots) (hx : p.tables.exec = Jvm.exec) (hZ : Z.Warmed39 s.vm) {aty : ArrayType} (w : (Jvm.Cond.arrayClass (newarray.typeOf aty)).before a0 Z = true) (eT : T.heap = h) {g : JFrame} (hg : g.method = m) (hd : decode c.code g.pc = .ok (.newarray aty, 2)) {rest : List Value} (hs : g.stack = .int n :: rest)
    (N : Nat) (hn : ¬ n < 0) (hN : n.toNatClampNeg = N) (hb : N * 8 ≤ 536870912) (hc : cells + 1 ≤ R.cells) (hl : slots + N ≤ R.slots) (h0 : defaultValue (newarray.typeOf aty) = .int 0) :
    ∃ T' h' a k, Stand p l e R s m args below meth c T' locs (cells + 1) (slots + N) ∧ T'.heap = h' ∧ Ext h h' ∧ a = h.size ∧ own_A Z h' a k (newarray.typeOf aty) n (List.replicate N 0) ∧
      ∀ target, Steps p.tables e below (T'.setTop { g with pc := g.pc + 2, stack := .ref a :: rest }) target → Steps p.tables e below (T.setTop g) target := by
  obtain ⟨T', h', cA, X', e', E, A, st⟩ := newP X hx hZ w eT hg hd hs hn (cap := N) (Nat.le_of_eq hN) hb hc hl
  refine ⟨T', h', h.size, cA, X', e', E, rfl, ?_, st⟩
  have V := Arv.new A hn
  rw [h0] at V
  have V' := V.pad (pad_rep [] (.int 0) N)
  unfold own_A
  rw [List.map_replicate]
  exact V'
theorem own_setA {j x : Int32} {cl : Cell} (A : Arr Z h a cl ty) (q : cl.cls = k) (S : cl.slots.size = n.toNatClampNeg) (N : ¬ n < 0) (H : Has cl (xs.map Value.int) (.int 0)) (G : ∀ i, i < cl.slots.size → fits ty ((xs.map Value.int).getD i (.int 0)) = true) (hf : fits ty (.int x) = true)
    (W : Wr h h' a j.toNatClampNeg (.int x)) (i : Nat) (hj : j.toNatClampNeg = i) (hi : i < xs.length) : own_A Z h' a k ty n (xs.set i x) := by
  have V := Arv.set A q S N H G hf W i hj (by simpa using hi)
  unfold own_A
  rw [List.map_set]
  exact V
theorem own_stI (X : Stand p l e R s m args below meth c T locs cells slots) (hx : p.tables.exec = Jvm.exec) (hZ : Z.Warmed39 s.vm) (eT : T.heap = h) (V : own_A Z h a k .int n xs) {j x : Int32} (i : Nat) (hj : ¬ j < 0 ∧ j < n) (hi : j.toNatClampNeg = i) (hl : i < xs.length)
    {g : JFrame} (hg : g.method = m) {rest : List Value} (hs : g.stack = .int x :: .int j :: .ref a :: rest) (hd : decode c.code g.pc = .ok (.iastore, 1)) :
    ∃ T' h' L', Stand p l e R s m args below meth c T' L' cells slots ∧ T'.heap = h' ∧ (∀ n0, Fr n0 locs → n0 ≤ a → Fr n0 L') ∧ own_A Z h' a k .int n (xs.set i x) ∧ Wr h h' a j.toNatClampNeg (.int x) ∧
      ∀ target, Steps p.tables e below (T'.setTop { g with pc := g.pc + 1, stack := rest }) target → Steps p.tables e below (T.setTop g) target := by
  obtain ⟨cl, A, q, S, N, H, G⟩ := V
  obtain ⟨T', h', X', e', W, st⟩ := stI X hx hZ eT A (inb_of S hj) hg hs hd
  exact ⟨T', h', _, X', e', fun n0 F q => Fr.snoc X' F q, own_setA A q S N H G rfl W i hi hl, W, st⟩
theorem own_stB (X : Stand p l e R s m args below meth c T locs cells slots) (hx : p.tables.exec = Jvm.exec) (hZ : Z.Warmed39 s.vm) (eT : T.heap = h) (V : own_A Z h a k .byte n xs) {j x : Int32} (i : Nat) (hj : ¬ j < 0 ∧ j < n) (hi : j.toNatClampNeg = i) (hl : i < xs.length)
    {g : JFrame} (hg : g.method = m) {rest : List Value} (hs : g.stack = .int x :: .int j :: .ref a :: rest) (hd : decode c.code g.pc = .ok (.bastore, 1)) :
    ∃ T' h' L', Stand p l e R s m args below meth c T' L' cells slots ∧ T'.heap = h' ∧ (∀ n0, Fr n0 locs → n0 ≤ a → Fr n0 L') ∧ own_A Z h' a k .byte n (xs.set i (nar .byte x)) ∧ Wr h h' a j.toNatClampNeg (.int (nar .byte x)) ∧
      ∀ target, Steps p.tables e below (T'.setTop { g with pc := g.pc + 1, stack := rest }) target → Steps p.tables e below (T.setTop g) target := by
  obtain ⟨cl, A, q, S, N, H, G⟩ := V
  obtain ⟨T', h', X', e', W, st⟩ := stB X hx hZ eT A (inb_of S hj) hg hs hd
  exact ⟨T', h', _, X', e', fun n0 F q => Fr.snoc X' F q, own_setA A q S N H G (fits_nar_byte _) W i hi hl, W, st⟩
theorem own_stC (X : Stand p l e R s m args below meth c T locs cells slots) (hx : p.tables.exec = Jvm.exec) (hZ : Z.Warmed39 s.vm) (eT : T.heap = h) (V : own_A Z h a k .char n xs) {j x : Int32} (i : Nat) (hj : ¬ j < 0 ∧ j < n) (hi : j.toNatClampNeg = i) (hl : i < xs.length)
    {g : JFrame} (hg : g.method = m) {rest : List Value} (hs : g.stack = .int x :: .int j :: .ref a :: rest) (hd : decode c.code g.pc = .ok (.castore, 1)) :
    ∃ T' h' L', Stand p l e R s m args below meth c T' L' cells slots ∧ T'.heap = h' ∧ (∀ n0, Fr n0 locs → n0 ≤ a → Fr n0 L') ∧ own_A Z h' a k .char n (xs.set i (nar .char x)) ∧ Wr h h' a j.toNatClampNeg (.int (nar .char x)) ∧
      ∀ target, Steps p.tables e below (T'.setTop { g with pc := g.pc + 1, stack := rest }) target → Steps p.tables e below (T.setTop g) target := by
  obtain ⟨cl, A, q, S, N, H, G⟩ := V
  obtain ⟨T', h', X', e', W, st⟩ := stC X hx hZ eT A (inb_of S hj) hg hs hd
  exact ⟨T', h', _, X', e', fun n0 F q => Fr.snoc X' F q, own_setA A q S N H G (fits_nar_char _) W i hi hl, W, st⟩
theorem own_getA (V : own_A Z h a k ty n xs) {j : Int32} (hj : ¬ j < 0 ∧ j < n) : ∃ cl : Cell, Arr Z h a cl ty ∧ ¬ (j < 0 ∨ cl.slots.size ≤ j.toNatClampNeg) ∧ cl.slots[j.toNatClampNeg]? = some (.int (xs.getD j.toNatClampNeg 0)) := by
  obtain ⟨cl, A, q, S, N, H, G⟩ := V
  have hin := inb_of S hj
  refine ⟨cl, A, hin, ?_⟩
  rw [H _ (Nat.lt_of_not_le fun q => hin (Or.inr q))]
  simp only [List.getD_eq_getElem?_getD, List.getElem?_map]
  cases xs[j.toNatClampNeg]? <;> rfl
theorem own_ldI (X : Stand p l e R s m args below meth c T locs cells slots) (hx : p.tables.exec = Jvm.exec) (hZ : Z.Warmed39 s.vm) (eT : T.heap = h) (V : own_A Z h a k .int n xs) {j : Int32} (hj : ¬ j < 0 ∧ j < n)
    {g : JFrame} (hg : g.method = m) {rest : List Value} (hs : g.stack = .int j :: .ref a :: rest) (hd : decode c.code g.pc = .ok (.iaload, 1)) :
    ∀ target, Steps p.tables e below (T.setTop { g with pc := g.pc + 1, stack := .int (xs.getD j.toNatClampNeg 0) :: rest }) target → Steps p.tables e below (T.setTop g) target := by
  obtain ⟨cl, A, hin, hat⟩ := own_getA V hj
  exact X.iaload hx (by rw [eT]; exact A.1) (State.isArrayOf_alike hZ.alike A.2.1) A.2.2 hin hat hg hs hd
theorem own_ldB (X : Stand p l e R s m args below meth c T locs cells slots) (hx : p.tables.exec = Jvm.exec) (hZ : Z.Warmed39 s.vm) (eT : T.heap = h) (V : own_A Z h a k .byte n xs) {j : Int32} (hj : ¬ j < 0 ∧ j < n)
    {g : JFrame} (hg : g.method = m) {rest : List Value} (hs : g.stack = .int j :: .ref a :: rest) (hd : decode c.code g.pc = .ok (.baload, 1)) :
    ∀ target, Steps p.tables e below (T.setTop { g with pc := g.pc + 1, stack := .int (xs.getD j.toNatClampNeg 0) :: rest }) target → Steps p.tables e below (T.setTop g) target := by
  obtain ⟨cl, A, hin, hat⟩ := own_getA V hj
  exact X.baloadBytes hx (by rw [eT]; exact A.1) (State.isArrayOf_alike hZ.alike A.2.1) A.2.2 hin hat hg hs hd
theorem own_ldC (X : Stand p l e R s m args below meth c T locs cells slots) (hx : p.tables.exec = Jvm.exec) (hZ : Z.Warmed39 s.vm) (eT : T.heap = h) (V : own_A Z h a k .char n xs) {j : Int32} (hj : ¬ j < 0 ∧ j < n)
    {g : JFrame} (hg : g.method = m) {rest : List Value} (hs : g.stack = .int j :: .ref a :: rest) (hd : decode c.code g.pc = .ok (.caload, 1)) :
    ∀ target, Steps p.tables e below (T.setTop { g with pc := g.pc + 1, stack := .int (xs.getD j.toNatClampNeg 0) :: rest }) target → Steps p.tables e below (T.setTop g) target := by
  obtain ⟨cl, A, hin, hat⟩ := own_getA V hj
  exact X.caload hx (by rw [eT]; exact A.1) (State.isArrayOf_alike hZ.alike A.2.1) A.2.2 hin hat hg hs hd
end OwnArr
theorem own_rem32 (x y : Int32) : (x - x / y * y).toInt = x.toInt.tmod y.toInt := by
  have a := (x % y).toInt_lt; have b := (x % y).le_toInt
  rw [Int32.toInt_mod] at a b
  rw [Int32.toInt_sub, Int32.toInt_mul, Int32.toInt_div, Int.bmod_mul_bmod, Int.sub_bmod_bmod, Int.mul_comm, ← Int.tmod_def]
  exact Jvm.Kit.bmod32 b a
theorem own_rem32n {x y : Int32} (hx : 0 ≤ x.toInt) : (x - x / y * y).toInt = x.toInt % y.toInt := by rw [own_rem32, Int.tmod_eq_emod_of_nonneg hx]
theorem own_m31 (x : Int32) : 0 ≤ (x &&& (2147483647 : Int32)).toInt ∧ (x &&& (2147483647 : Int32)).toInt < 2147483648 := by
  rw [Jvm.Kit.i32_mask x 2147483647 (k := 31) (by decide) (by decide)]
  omega
def own_small (f c : Int32) : Prop := 0 ≤ f.toInt ∧ 0 ≤ c.toInt ∧ f.toInt + c.toInt ≤ 8
theorem own_sum8 {f c : Int32} (h : own_small f c) : (f + c).toInt = f.toInt + c.toInt := by
  obtain ⟨h1, h2, h3⟩ := h
  exact Jvm.Kit.i32_add (by omega) (by omega)
theorem own_first (p : Int32) : 0 ≤ ((p &&& (2147483647 : Int32)) - (p &&& (2147483647 : Int32)) / (9 : Int32) * (9 : Int32)).toInt ∧ ((p &&& (2147483647 : Int32)) - (p &&& (2147483647 : Int32)) / (9 : Int32) * (9 : Int32)).toInt ≤ 8 := by
  rw [own_rem32n (own_m31 p).1, show (9 : Int32).toInt = 9 from rfl]
  omega
theorem own_nine {f : Int32} (h : 0 ≤ f.toInt ∧ f.toInt ≤ 8) : ((9 : Int32) - f).toInt = 9 - f.toInt := by
  have l9 : (9 : Int32).toInt = 9 := rfl
  rw [Jvm.Kit.i32_sub (by omega) (by omega), l9]
theorem own_nz {f : Int32} (h : 0 ≤ f.toInt ∧ f.toInt ≤ 8) : (9 : Int32) - f ≠ 0 := fun q => by
  have e := own_nine h
  rw [q, show (0 : Int32).toInt = 0 from rfl] at e
  omega
theorem own_from {c : Int32} (h : 0 ≤ c.toInt ∧ c.toInt ≤ 8) (p : Int32) : own_small ((p &&& (2147483647 : Int32)) - (p &&& (2147483647 : Int32)) / ((9 : Int32) - c) * ((9 : Int32) - c)) c := by
  have e := own_nine h
  have hm := Int.emod_lt_of_pos (p &&& (2147483647 : Int32)).toInt (b := 9 - c.toInt) (by omega)
  have hn := Int.emod_nonneg (p &&& (2147483647 : Int32)).toInt (b := 9 - c.toInt) (by omega)
  unfold own_small
  rw [own_rem32n (own_m31 p).1, e]
  omega
/-- the loop of digits: i between 0 and from + count, fewer turns left than fuel -/
def own_H (s i : Int32) (fuel : Nat) : Prop := 0 ≤ i.toInt ∧ s.toInt ≤ 8 ∧ 0 ≤ s.toInt - i.toInt ∧ s.toInt - i.toInt < (fuel : Int)
theorem own_HZ {s i : Int32} : ¬ own_H s i 0 := fun ⟨h1, h2, h3, h4⟩ => by omega
theorem own_H0 {f c : Int32} (h : own_small f c) : own_H (f + c) f 9 := by
  have e := own_sum8 h
  obtain ⟨h1, h2, h3⟩ := h
  exact ⟨h1, by omega, by omega, by omega⟩
theorem own_HS {s i : Int32} {fuel : Nat} (q : i < s) (h : own_H s i (fuel + 1)) : own_H s (i + (1 : Int32)) fuel := by
  obtain ⟨h1, h2, h3, h4⟩ := h
  rw [Int32.lt_iff_toInt_lt] at q
  have l1 : (1 : Int32).toInt = 1 := rfl
  have e : (i + (1 : Int32)).toInt = i.toInt + 1 := by rw [Jvm.Kit.i32_add (by omega) (by omega), l1]
  exact ⟨by omega, h2, by omega, by omega⟩
theorem own_ix {s i : Int32} {fuel : Nat} (h : own_H s i fuel) (q : i < s) : ¬ i < 0 ∧ i < 8 := by
  obtain ⟨h1, h2, h3, h4⟩ := h
  rw [Int32.lt_iff_toInt_lt] at q
  rw [Int32.lt_iff_toInt_lt, Int32.lt_iff_toInt_lt, show (8 : Int32).toInt = 8 from rfl, show (0 : Int32).toInt = 0 from rfl]
  omega

theorem d1_0 : decode method_3_code 0 = .ok (.lload_n 0, 1) := by decide +kernel
theorem d1_1 : decode method_3_code 1 = .ok (.bipush 8, 2) := by decide +kernel
theorem d1_3 : decode method_3_code 3 = .ok (.iload_n 3, 1) := by decide +kernel
theorem d1_4 : decode method_3_code 4 = .ok (.imul, 1) := by decide +kernel
theorem d1_5 : decode method_3_code 5 = .ok (.lushr, 1) := by decide +kernel
theorem d1_6 : decode method_3_code 6 = .ok (.ldc2_w 28, 3) := by decide +kernel
theorem d1_9 : decode method_3_code 9 = .ok (.land, 1) := by decide +kernel
theorem d1_10 : decode method_3_code 10 = .ok (.l2i, 1) := by decide +kernel
theorem d1_11 : decode method_3_code 11 = .ok (.istore 4, 2) := by decide +kernel
theorem d1_13 : decode method_3_code 13 = .ok (.iload_n 2, 1) := by decide +kernel
theorem d1_14 : decode method_3_code 14 = .ok (.iload_n 3, 1) := by decide +kernel
theorem d1_15 : decode method_3_code 15 = .ok (.iushr, 1) := by decide +kernel
theorem d1_16 : decode method_3_code 16 = .ok (.iconst 1, 1) := by decide +kernel
theorem d1_17 : decode method_3_code 17 = .ok (.iand, 1) := by decide +kernel
theorem d1_18 : decode method_3_code 18 = .ok (.ifCond .eq 13, 3) := by decide +kernel
theorem d1_21 : decode method_3_code 21 = .ok (.bipush 48, 2) := by decide +kernel
theorem d1_23 : decode method_3_code 23 = .ok (.iload 4, 2) := by decide +kernel
theorem d1_25 : decode method_3_code 25 = .ok (.bipush 10, 2) := by decide +kernel
theorem d1_27 : decode method_3_code 27 = .ok (.irem, 1) := by decide +kernel
theorem d1_28 : decode method_3_code 28 = .ok (.iadd, 1) := by decide +kernel
theorem d1_29 : decode method_3_code 29 = .ok (.i2b, 1) := by decide +kernel
theorem d1_30 : decode method_3_code 30 = .ok (.ireturn, 1) := by decide +kernel
theorem d1_31 : decode method_3_code 31 = .ok (.iload 4, 2) := by decide +kernel
theorem d1_33 : decode method_3_code 33 = .ok (.i2b, 1) := by decide +kernel
theorem d1_34 : decode method_3_code 34 = .ok (.ireturn, 1) := by decide +kernel
theorem pn_1 : plainName "com/example/kolektyv/kolektyv/records/Iso2709ReaderDigitsPinLaw" = true := by first | (simp [plainName, overriddenIn]; done) | decide +kernel
theorem ef_1 (m : MethodId) (q0 : Int64) (p1 : Int32) (p2 : Int32) : entryFrame m #[(.long q0), (.int p1), (.int p2)] 5 = mkF m 0 #[.val (.long q0), .second, .val (.int p1), .val (.int p2), .unset] [] := by first | (simp [entryFrame, mkF, argsToLocals, Value.category]; done) | rfl
def own_f1 (q0 : Int64) (p1 : Int32) (p2 : Int32) : Int32 :=
  let z11 : Int32 := ((((q0.toUInt64 >>> (((8 : Int32) * p2) &&& 0x3f).toInt64.toUInt64).toInt64) &&& (255 : Int64)).toInt32)
  if (((p1.toUInt32 >>> (p2 &&& 31).toUInt32).toInt32) &&& (1 : Int32)) = 0 then
    (nar .byte (z11.toInt8.toInt32))
  else
    (nar .byte (((48 : Int32) + (z11 - z11 / (10 : Int32) * (10 : Int32))).toInt8.toInt32))
abbrev own_room1 : Room := { frames := 0, cells := 0, slots := 0, locals := 0 }
set_option maxRecDepth 65536 in
set_option maxHeartbeats 40000000 in
theorem rm1 (l : Launch) (Z : State) (a0 : Array Value) (hw : ∀ d ∈ tables_1, d.before a0 Z = true) (ws : List Jvm.Cond) (q0 : Int64) (p1 : Int32) (p2 : Int32) (h0 : Heap) (n0 : Nat) (Z0 : n0 ≤ h0.size) :
    MetFree l (⟨"com/example/kolektyv/kolektyv/records/Iso2709ReaderDigitsPinLaw", "at", "(JII)B"⟩ : MethodName) (head1 (Jvm.Cond.code (⟨"com/example/kolektyv/kolektyv/records/Iso2709ReaderDigitsPinLaw", "at", "(JII)B"⟩ : MethodName) method_3_code 5 (some .byte) :: ws) own_room1) (fun a U => a = #[(.long q0), (.int p1), (.int p2)] ∧ Z.Warmed39 U.vm ∧ U.heap = h0) (fun _ _ _ _ _ => True) (fun _ U o U' => ∃ v L, o = .returned v ∧ own_Qp (some (.int (own_f1 q0 p1 p2))) h0 v U'.heap L ∧ FrameEnd U o U' L own_room1.cells own_room1.slots) := by
  refine MetFree.of_bodySF (plainFor_of_name pn_1) hisR ?_
  intro p e s m args below meth c s₁ Bd hml0 hP hK
  obtain ⟨rfl, hZ, hh⟩ := hP
  have hx := Bd.exec
  have hby := Bd.bytes
  have hml : c.maxLocals = 5 := hml0
  have hown : s.vm.findClass "com/example/kolektyv/kolektyv/records/Iso2709ReaderDigitsPinLaw" = some m.cls := findClass_of_methodNamed Bd.named
  have hnm := (name_of_methodNamed Bd.named Bd.method).1
  have X0 : Stand p l e own_room1 s m #[(.long q0), (.int p1), (.int p2)] below meth c s₁ [] 0 0 := Stand.of_body Bd
  have e0 : s₁.heap = h0 := by rw [← hh, Bd.state]; rfl
  have N0 := Fr.nil n0
  refine own_enter (ef_1 m q0 p1 p2) ?_
  show own_Goes p.tables e below (s₁.setTop (mkF m 0 #[.val (.long q0), .second, .val (.int p1), .val (.int p2), .unset] [])) (own_P s (own_Qp (some (.int (own_f1 q0 p1 p2))) h0) own_room1.cells own_room1.slots)
  refine own_step (fun _ => XS.lloadN X0.here hx rfl (hb hby d1_0) rfl) ?_
  show own_Goes p.tables e below (s₁.setTop (mkF m 1 #[.val (.long q0), .second, .val (.int p1), .val (.int p2), .unset] [(.long q0)])) _
  refine own_step (fun _ => XS.bipush X0.here hx rfl (hb hby d1_1)) ?_
  show own_Goes p.tables e below (s₁.setTop (mkF m 3 #[.val (.long q0), .second, .val (.int p1), .val (.int p2), .unset] [(.int (8 : Int32)), (.long q0)])) _
  refine own_step (fun _ => XS.iloadN X0.here hx rfl (hb hby d1_3) rfl) ?_
  show own_Goes p.tables e below (s₁.setTop (mkF m 4 #[.val (.long q0), .second, .val (.int p1), .val (.int p2), .unset] [(.int p2), (.int (8 : Int32)), (.long q0)])) _
  refine own_step (fun _ => XS.imul X0.here hx rfl (hb hby d1_4) rfl) ?_
  show own_Goes p.tables e below (s₁.setTop (mkF m 5 #[.val (.long q0), .second, .val (.int p1), .val (.int p2), .unset] [(.int ((8 : Int32) * p2)), (.long q0)])) _
  refine own_step (fun _ => XS.lushr X0.here hx rfl (hb hby d1_5) rfl) ?_
  show own_Goes p.tables e below (s₁.setTop (mkF m 6 #[.val (.long q0), .second, .val (.int p1), .val (.int p2), .unset] [(.long ((q0.toUInt64 >>> (((8 : Int32) * p2) &&& 0x3f).toInt64.toUInt64).toInt64))])) _
  refine own_step (X0.ldc2Long hx hown (mvT hZ (hw _ (List.mem_of_getElem? (i := 5) rfl))) (g := (mkF m 6 #[.val (.long q0), .second, .val (.int p1), .val (.int p2), .unset] [(.long ((q0.toUInt64 >>> (((8 : Int32) * p2) &&& 0x3f).toInt64.toUInt64).toInt64))])) rfl (hb hby d1_6)) ?_
  show own_Goes p.tables e below (s₁.setTop (mkF m 9 #[.val (.long q0), .second, .val (.int p1), .val (.int p2), .unset] [(.long (255 : Int64)), (.long ((q0.toUInt64 >>> (((8 : Int32) * p2) &&& 0x3f).toInt64.toUInt64).toInt64))])) _
  refine own_step (fun _ => XS.land X0.here hx rfl (hb hby d1_9) rfl) ?_
  show own_Goes p.tables e below (s₁.setTop (mkF m 10 #[.val (.long q0), .second, .val (.int p1), .val (.int p2), .unset] [(.long (((q0.toUInt64 >>> (((8 : Int32) * p2) &&& 0x3f).toInt64.toUInt64).toInt64) &&& (255 : Int64)))])) _
  refine own_step (fun _ => XS.l2i X0.here hx rfl (hb hby d1_10) rfl) ?_
  show own_Goes p.tables e below (s₁.setTop (mkF m 11 #[.val (.long q0), .second, .val (.int p1), .val (.int p2), .unset] [(.int ((((q0.toUInt64 >>> (((8 : Int32) * p2) &&& 0x3f).toInt64.toUInt64).toInt64) &&& (255 : Int64)).toInt32))])) _
  obtain ⟨z11, hz11⟩ : ∃ z : Int32, z = ((((q0.toUInt64 >>> (((8 : Int32) * p2) &&& 0x3f).toInt64.toUInt64).toInt64) &&& (255 : Int64)).toInt32) := ⟨_, rfl⟩
  refine own_step (fun _ => XS.istore X0.here hx rfl (hb hby d1_11) rfl (l' := #[.val (.long q0), .second, .val (.int p1), .val (.int p2), .val (.int z11)]) (by subst hz11; rfl)) ?_
  show own_Goes p.tables e below (s₁.setTop (mkF m 13 #[.val (.long q0), .second, .val (.int p1), .val (.int p2), .val (.int z11)] [])) _
  refine own_step (fun _ => XS.iloadN X0.here hx rfl (hb hby d1_13) rfl) ?_
  show own_Goes p.tables e below (s₁.setTop (mkF m 14 #[.val (.long q0), .second, .val (.int p1), .val (.int p2), .val (.int z11)] [(.int p1)])) _
  refine own_step (fun _ => XS.iloadN X0.here hx rfl (hb hby d1_14) rfl) ?_
  show own_Goes p.tables e below (s₁.setTop (mkF m 15 #[.val (.long q0), .second, .val (.int p1), .val (.int p2), .val (.int z11)] [(.int p2), (.int p1)])) _
  refine own_step (fun _ => XS.iushr X0.here hx rfl (hb hby d1_15) rfl) ?_
  show own_Goes p.tables e below (s₁.setTop (mkF m 16 #[.val (.long q0), .second, .val (.int p1), .val (.int p2), .val (.int z11)] [(.int ((p1.toUInt32 >>> (p2 &&& 31).toUInt32).toInt32))])) _
  refine own_step (fun _ => XS.iconst X0.here hx rfl (hb hby d1_16)) ?_
  show own_Goes p.tables e below (s₁.setTop (mkF m 17 #[.val (.long q0), .second, .val (.int p1), .val (.int p2), .val (.int z11)] [(.int (1 : Int32)), (.int ((p1.toUInt32 >>> (p2 &&& 31).toUInt32).toInt32))])) _
  refine own_step (fun _ => XS.iand X0.here hx rfl (hb hby d1_17) rfl) ?_
  show own_Goes p.tables e below (s₁.setTop (mkF m 18 #[.val (.long q0), .second, .val (.int p1), .val (.int p2), .val (.int z11)] [(.int (((p1.toUInt32 >>> (p2 &&& 31).toUInt32).toInt32) &&& (1 : Int32)))])) _
  by_cases hc18 : (((p1.toUInt32 >>> (p2 &&& 31).toUInt32).toInt32) &&& (1 : Int32)) = 0
  · refine own_step (fun _ => XS.ifYes X0.here hx rfl (pc0 := 18) (pc' := 31) rfl (hb hby d1_18) rfl (Jvm.Free.XT.i0_eq_t hc18) (by decide) (by decide)) ?_
    show own_Goes p.tables e below (s₁.setTop (mkF m 31 #[.val (.long q0), .second, .val (.int p1), .val (.int p2), .val (.int z11)] [])) _
    refine own_step (fun _ => XS.iload X0.here hx rfl (hb hby d1_31) rfl) ?_
    show own_Goes p.tables e below (s₁.setTop (mkF m 33 #[.val (.long q0), .second, .val (.int p1), .val (.int p2), .val (.int z11)] [(.int z11)])) _
    refine own_step (fun _ => XS.i2b X0.here hx rfl (hb hby d1_33) rfl) ?_
    show own_Goes p.tables e below (s₁.setTop (mkF m 34 #[.val (.long q0), .second, .val (.int p1), .val (.int p2), .val (.int z11)] [(.int (z11.toInt8.toInt32))])) _
    have hv : (own_f1 q0 p1 p2) = (nar .byte (z11.toInt8.toInt32)) := by subst hz11; exact (if_pos hc18)
    rw [hv]
    exact own_retN X0 hx (t := .byte) Bd.returns (by simp) (hb hby d1_34) (BodyLoose.notSynchronized Bd) (w := (nar .byte (z11.toInt8.toInt32))) rfl ⟨rfl, rfl, e0⟩ (by decide) (by decide)
  · refine own_step (fun _ => XS.ifNo X0.here hx rfl (hb hby d1_18) rfl (Jvm.Free.XT.i0_eq_f hc18)) ?_
    show own_Goes p.tables e below (s₁.setTop (mkF m 21 #[.val (.long q0), .second, .val (.int p1), .val (.int p2), .val (.int z11)] [])) _
    refine own_step (fun _ => XS.bipush X0.here hx rfl (hb hby d1_21)) ?_
    show own_Goes p.tables e below (s₁.setTop (mkF m 23 #[.val (.long q0), .second, .val (.int p1), .val (.int p2), .val (.int z11)] [(.int (48 : Int32))])) _
    refine own_step (fun _ => XS.iload X0.here hx rfl (hb hby d1_23) rfl) ?_
    show own_Goes p.tables e below (s₁.setTop (mkF m 25 #[.val (.long q0), .second, .val (.int p1), .val (.int p2), .val (.int z11)] [(.int z11), (.int (48 : Int32))])) _
    refine own_step (fun _ => XS.bipush X0.here hx rfl (hb hby d1_25)) ?_
    show own_Goes p.tables e below (s₁.setTop (mkF m 27 #[.val (.long q0), .second, .val (.int p1), .val (.int p2), .val (.int z11)] [(.int (10 : Int32)), (.int z11), (.int (48 : Int32))])) _
    refine own_step (fun _ => XS.irem X0.here hx rfl (hb hby d1_27) rfl (by decide)) ?_
    show own_Goes p.tables e below (s₁.setTop (mkF m 28 #[.val (.long q0), .second, .val (.int p1), .val (.int p2), .val (.int z11)] [(.int (z11 - z11 / (10 : Int32) * (10 : Int32))), (.int (48 : Int32))])) _
    refine own_step (fun _ => XS.iadd X0.here hx rfl (hb hby d1_28) rfl) ?_
    show own_Goes p.tables e below (s₁.setTop (mkF m 29 #[.val (.long q0), .second, .val (.int p1), .val (.int p2), .val (.int z11)] [(.int ((48 : Int32) + (z11 - z11 / (10 : Int32) * (10 : Int32))))])) _
    refine own_step (fun _ => XS.i2b X0.here hx rfl (hb hby d1_29) rfl) ?_
    show own_Goes p.tables e below (s₁.setTop (mkF m 30 #[.val (.long q0), .second, .val (.int p1), .val (.int p2), .val (.int z11)] [(.int (((48 : Int32) + (z11 - z11 / (10 : Int32) * (10 : Int32))).toInt8.toInt32))])) _
    have hv : (own_f1 q0 p1 p2) = (nar .byte (((48 : Int32) + (z11 - z11 / (10 : Int32) * (10 : Int32))).toInt8.toInt32)) := by subst hz11; exact (if_neg hc18)
    rw [hv]
    exact own_retN X0 hx (t := .byte) Bd.returns (by simp) (hb hby d1_30) (BodyLoose.notSynchronized Bd) (w := (nar .byte (((48 : Int32) + (z11 - z11 / (10 : Int32) * (10 : Int32))).toInt8.toInt32))) rfl ⟨rfl, rfl, e0⟩ (by decide) (by decide)
theorem d3_0 : decode method_4_code 0 = .ok (.iload_n 0, 1) := by decide +kernel
theorem d3_1 : decode method_4_code 1 = .ok (.iload_n 1, 1) := by decide +kernel
theorem d3_2 : decode method_4_code 2 = .ok (.if_icmp .lt 14, 3) := by decide +kernel
theorem d3_5 : decode method_4_code 5 = .ok (.iload_n 0, 1) := by decide +kernel
theorem d3_6 : decode method_4_code 6 = .ok (.iload_n 1, 1) := by decide +kernel
theorem d3_7 : decode method_4_code 7 = .ok (.iload_n 2, 1) := by decide +kernel
theorem d3_8 : decode method_4_code 8 = .ok (.iadd, 1) := by decide +kernel
theorem d3_9 : decode method_4_code 9 = .ok (.if_icmp .ge 7, 3) := by decide +kernel
theorem d3_12 : decode method_4_code 12 = .ok (.iconst 1, 1) := by decide +kernel
theorem d3_13 : decode method_4_code 13 = .ok (.goto 4, 3) := by decide +kernel
theorem d3_16 : decode method_4_code 16 = .ok (.iconst 0, 1) := by decide +kernel
theorem d3_17 : decode method_4_code 17 = .ok (.ireturn, 1) := by decide +kernel
theorem pn_3 : plainName "com/example/kolektyv/kolektyv/records/Iso2709ReaderDigitsPinLaw" = true := by first | (simp [plainName, overriddenIn]; done) | decide +kernel
theorem ef_3 (m : MethodId) (p0 : Int32) (p1 : Int32) (p2 : Int32) : entryFrame m #[(.int p0), (.int p1), (.int p2)] 3 = mkF m 0 #[.val (.int p0), .val (.int p1), .val (.int p2)] [] := by first | (simp [entryFrame, mkF, argsToLocals, Value.category]; done) | rfl
def own_f3_16 : Int32 :=
  (0 : Int32)
def own_f3 (p0 : Int32) (p1 : Int32) (p2 : Int32) : Int32 :=
  if p0 < p1 then
    (own_f3_16)
  else
    if p0 < (p1 + p2) then
      (1 : Int32)
    else
      (own_f3_16)
abbrev own_room3 : Room := { frames := 0, cells := 0, slots := 0, locals := 0 }
set_option maxRecDepth 65536 in
set_option maxHeartbeats 40000000 in
theorem rm3 (l : Launch) (Z : State) (a0 : Array Value) (hw : ∀ d ∈ tables_1, d.before a0 Z = true) (ws : List Jvm.Cond) (p0 : Int32) (p1 : Int32) (p2 : Int32) (h0 : Heap) (n0 : Nat) (Z0 : n0 ≤ h0.size) :
    MetFree l (⟨"com/example/kolektyv/kolektyv/records/Iso2709ReaderDigitsPinLaw", "inside", "(III)Z"⟩ : MethodName) (head1 (Jvm.Cond.code (⟨"com/example/kolektyv/kolektyv/records/Iso2709ReaderDigitsPinLaw", "inside", "(III)Z"⟩ : MethodName) method_4_code 3 (some .boolean) :: ws) own_room3) (fun a U => a = #[(.int p0), (.int p1), (.int p2)] ∧ Z.Warmed39 U.vm ∧ U.heap = h0) (fun _ _ _ _ _ => True) (fun _ U o U' => ∃ v L, o = .returned v ∧ own_Qp (some (.int (own_f3 p0 p1 p2))) h0 v U'.heap L ∧ FrameEnd U o U' L own_room3.cells own_room3.slots) := by
  refine MetFree.of_bodySF (plainFor_of_name pn_3) hisR ?_
  intro p e s m args below meth c s₁ Bd hml0 hP hK
  obtain ⟨rfl, hZ, hh⟩ := hP
  have hx := Bd.exec
  have hby := Bd.bytes
  have hml : c.maxLocals = 3 := hml0
  have hown : s.vm.findClass "com/example/kolektyv/kolektyv/records/Iso2709ReaderDigitsPinLaw" = some m.cls := findClass_of_methodNamed Bd.named
  have hnm := (name_of_methodNamed Bd.named Bd.method).1
  have X0 : Stand p l e own_room3 s m #[(.int p0), (.int p1), (.int p2)] below meth c s₁ [] 0 0 := Stand.of_body Bd
  have e0 : s₁.heap = h0 := by rw [← hh, Bd.state]; rfl
  have N0 := Fr.nil n0
  refine own_enter (ef_3 m p0 p1 p2) ?_
  show own_Goes p.tables e below (s₁.setTop (mkF m 0 #[.val (.int p0), .val (.int p1), .val (.int p2)] [])) (own_P s (own_Qp (some (.int (own_f3 p0 p1 p2))) h0) own_room3.cells own_room3.slots)
  refine own_step (fun _ => XS.iloadN X0.here hx rfl (hb hby d3_0) rfl) ?_
  show own_Goes p.tables e below (s₁.setTop (mkF m 1 #[.val (.int p0), .val (.int p1), .val (.int p2)] [(.int p0)])) _
  refine own_step (fun _ => XS.iloadN X0.here hx rfl (hb hby d3_1) rfl) ?_
  show own_Goes p.tables e below (s₁.setTop (mkF m 2 #[.val (.int p0), .val (.int p1), .val (.int p2)] [(.int p1), (.int p0)])) _
  have J16 : ∀ (T_16 : State) (X_16 : Stand p l e own_room3 s m #[(.int p0), (.int p1), (.int p2)] below meth c T_16 [] 0 0) (e_16 : T_16.heap = h0), own_Goes p.tables e below (T_16.setTop (mkF m 16 #[.val (.int p0), .val (.int p1), .val (.int p2)] [])) (own_P s (own_Qp (some (.int (own_f3_16))) h0) own_room3.cells own_room3.slots) := by
    intro T_16 X_16 e_16
    refine own_step (fun _ => XS.iconst X_16.here hx rfl (hb hby d3_16)) ?_
    show own_Goes p.tables e below (T_16.setTop (mkF m 17 #[.val (.int p0), .val (.int p1), .val (.int p2)] [(.int (0 : Int32))])) _
    have hv : (own_f3_16) = (0 : Int32) := by exact rfl
    rw [hv]
    exact own_retN X_16 hx (t := .boolean) Bd.returns (by simp) (hb hby d3_17) (BodyLoose.notSynchronized Bd) (w := (0 : Int32)) rfl ⟨rfl, rfl, e_16⟩ (by decide) (by decide)
  by_cases hc2 : p0 < p1
  · refine own_step (fun _ => XS.icmpYes X0.here hx rfl (pc0 := 2) (pc' := 16) rfl (hb hby d3_2) rfl (Jvm.Free.XT.ii_lt_t hc2) (by decide) (by decide)) ?_
    show own_Goes p.tables e below (s₁.setTop (mkF m 16 #[.val (.int p0), .val (.int p1), .val (.int p2)] [])) _
    have hv : (own_f3 p0 p1 p2) = (own_f3_16) := by exact (if_pos hc2)
    rw [hv]
    exact J16 s₁ X0 e0
  · refine own_step (fun _ => XS.icmpNo X0.here hx rfl (hb hby d3_2) rfl (Jvm.Free.XT.ii_lt_f hc2)) ?_
    show own_Goes p.tables e below (s₁.setTop (mkF m 5 #[.val (.int p0), .val (.int p1), .val (.int p2)] [])) _
    refine own_step (fun _ => XS.iloadN X0.here hx rfl (hb hby d3_5) rfl) ?_
    show own_Goes p.tables e below (s₁.setTop (mkF m 6 #[.val (.int p0), .val (.int p1), .val (.int p2)] [(.int p0)])) _
    refine own_step (fun _ => XS.iloadN X0.here hx rfl (hb hby d3_6) rfl) ?_
    show own_Goes p.tables e below (s₁.setTop (mkF m 7 #[.val (.int p0), .val (.int p1), .val (.int p2)] [(.int p1), (.int p0)])) _
    refine own_step (fun _ => XS.iloadN X0.here hx rfl (hb hby d3_7) rfl) ?_
    show own_Goes p.tables e below (s₁.setTop (mkF m 8 #[.val (.int p0), .val (.int p1), .val (.int p2)] [(.int p2), (.int p1), (.int p0)])) _
    refine own_step (fun _ => XS.iadd X0.here hx rfl (hb hby d3_8) rfl) ?_
    show own_Goes p.tables e below (s₁.setTop (mkF m 9 #[.val (.int p0), .val (.int p1), .val (.int p2)] [(.int (p1 + p2)), (.int p0)])) _
    by_cases hc9 : p0 < (p1 + p2)
    · refine own_step (fun _ => XS.icmpNo X0.here hx rfl (hb hby d3_9) rfl (Jvm.Free.XT.ii_ge_f hc9)) ?_
      show own_Goes p.tables e below (s₁.setTop (mkF m 12 #[.val (.int p0), .val (.int p1), .val (.int p2)] [])) _
      refine own_step (fun _ => XS.iconst X0.here hx rfl (hb hby d3_12)) ?_
      show own_Goes p.tables e below (s₁.setTop (mkF m 13 #[.val (.int p0), .val (.int p1), .val (.int p2)] [(.int (1 : Int32))])) _
      refine own_step (fun _ => XS.goto X0.here hx rfl (pc0 := 13) (pc' := 17) rfl (hb hby d3_13) (by decide) (by decide)) ?_
      show own_Goes p.tables e below (s₁.setTop (mkF m 17 #[.val (.int p0), .val (.int p1), .val (.int p2)] [(.int (1 : Int32))])) _
      have hv : (own_f3 p0 p1 p2) = (1 : Int32) := by exact ((if_neg hc2)).trans (if_pos hc9)
      rw [hv]
      exact own_retN X0 hx (t := .boolean) Bd.returns (by simp) (hb hby d3_17) (BodyLoose.notSynchronized Bd) (w := (1 : Int32)) rfl ⟨rfl, rfl, e0⟩ (by decide) (by decide)
    · refine own_step (fun _ => XS.icmpYes X0.here hx rfl (pc0 := 9) (pc' := 16) rfl (hb hby d3_9) rfl (Jvm.Free.XT.ii_ge_t hc9) (by decide) (by decide)) ?_
      show own_Goes p.tables e below (s₁.setTop (mkF m 16 #[.val (.int p0), .val (.int p1), .val (.int p2)] [])) _
      have hv : (own_f3 p0 p1 p2) = (own_f3_16) := by exact ((if_neg hc2)).trans (if_neg hc9)
      rw [hv]
      exact J16 s₁ X0 e0
theorem d2_0 : decode method_5_code 0 = .ok (.iload_n 1, 1) := by decide +kernel
theorem d2_1 : decode method_5_code 1 = .ok (.iload_n 2, 1) := by decide +kernel
theorem d2_2 : decode method_5_code 2 = .ok (.iload_n 3, 1) := by decide +kernel
theorem d2_3 : decode method_5_code 3 = .ok (.invokestatic 30, 3) := by decide +kernel
theorem d2_6 : decode method_5_code 6 = .ok (.ifCond .eq 19, 3) := by decide +kernel
theorem d2_9 : decode method_5_code 9 = .ok (.aload_n 0, 1) := by decide +kernel
theorem d2_10 : decode method_5_code 10 = .ok (.iload_n 1, 1) := by decide +kernel
theorem d2_11 : decode method_5_code 11 = .ok (.baload, 1) := by decide +kernel
theorem d2_12 : decode method_5_code 12 = .ok (.bipush 48, 2) := by decide +kernel
theorem d2_14 : decode method_5_code 14 = .ok (.if_icmp .lt 15, 3) := by decide +kernel
theorem d2_17 : decode method_5_code 17 = .ok (.aload_n 0, 1) := by decide +kernel
theorem d2_18 : decode method_5_code 18 = .ok (.iload_n 1, 1) := by decide +kernel
theorem d2_19 : decode method_5_code 19 = .ok (.baload, 1) := by decide +kernel
theorem d2_20 : decode method_5_code 20 = .ok (.bipush 57, 2) := by decide +kernel
theorem d2_22 : decode method_5_code 22 = .ok (.if_icmp .gt 7, 3) := by decide +kernel
theorem d2_25 : decode method_5_code 25 = .ok (.iconst 1, 1) := by decide +kernel
theorem d2_26 : decode method_5_code 26 = .ok (.goto 4, 3) := by decide +kernel
theorem d2_29 : decode method_5_code 29 = .ok (.iconst 0, 1) := by decide +kernel
theorem d2_30 : decode method_5_code 30 = .ok (.ireturn, 1) := by decide +kernel
theorem pn_2 : plainName "com/example/kolektyv/kolektyv/records/Iso2709ReaderDigitsPinLaw" = true := by first | (simp [plainName, overriddenIn]; done) | decide +kernel
theorem pd_2_0 : parseMethodDescriptor "(III)Z" = some ⟨[.int, .int, .int], some .boolean⟩ := by decide +kernel
theorem ef_2 (m : MethodId) (r0 : Addr) (p1 : Int32) (p2 : Int32) (p3 : Int32) : entryFrame m #[(.ref r0), (.int p1), (.int p2), (.int p3)] 4 = mkF m 0 #[.val (.ref r0), .val (.int p1), .val (.int p2), .val (.int p3)] [] := by first | (simp [entryFrame, mkF, argsToLocals, Value.category]; done) | rfl
def own_f2_25 : Int32 :=
  (1 : Int32)
def own_f2_29 : Int32 :=
  (0 : Int32)
def own_f2 (ys : List Int32) (p1 : Int32) (p2 : Int32) (p3 : Int32) : Int32 :=
  if (own_f3 p1 p2 p3) = 0 then
    (own_f2_25)
  else
    if (ys.getD p1.toNatClampNeg 0) < (48 : Int32) then
      (own_f2_29)
    else
      if (57 : Int32) < (ys.getD p1.toNatClampNeg 0) then
        (own_f2_29)
      else
        (own_f2_25)
abbrev own_room2 : Room := { frames := 1, cells := 0, slots := 0, locals := 14 }
set_option maxRecDepth 65536 in
set_option maxHeartbeats 40000000 in
theorem rm2 (l : Launch) (Z : State) (a0 : Array Value) (hw : ∀ d ∈ tables_1, d.before a0 Z = true) (ws : List Jvm.Cond) (r0 : Addr) (p1 : Int32) (p2 : Int32) (p3 : Int32) (ys : List Int32) (k_r0 : ClassId) (h0 : Heap) (n0 : Nat) (Z0 : n0 ≤ h0.size) (V_r0 : own_A Z h0 r0 k_r0 .byte (8 : Int32) ys) (hp : ¬ p1 < 0 ∧ p1 < 8) :
    MetFree l (⟨"com/example/kolektyv/kolektyv/records/Iso2709ReaderDigitsPinLaw", "ok", "([BIII)Z"⟩ : MethodName) (head1 (Jvm.Cond.code (⟨"com/example/kolektyv/kolektyv/records/Iso2709ReaderDigitsPinLaw", "ok", "([BIII)Z"⟩ : MethodName) method_5_code 4 (some .boolean) :: ws) own_room2) (fun a U => a = #[(.ref r0), (.int p1), (.int p2), (.int p3)] ∧ Z.Warmed39 U.vm ∧ U.heap = h0) (fun _ _ _ _ _ => True) (fun _ U o U' => ∃ v L, o = .returned v ∧ own_Qp (some (.int (own_f2 ys p1 p2 p3))) h0 v U'.heap L ∧ FrameEnd U o U' L own_room2.cells own_room2.slots) := by
  refine MetFree.of_bodySF (plainFor_of_name pn_2) hisR ?_
  intro p e s m args below meth c s₁ Bd hml0 hP hK
  obtain ⟨rfl, hZ, hh⟩ := hP
  have hx := Bd.exec
  have hby := Bd.bytes
  have hml : c.maxLocals = 4 := hml0
  have hown : s.vm.findClass "com/example/kolektyv/kolektyv/records/Iso2709ReaderDigitsPinLaw" = some m.cls := findClass_of_methodNamed Bd.named
  have hnm := (name_of_methodNamed Bd.named Bd.method).1
  have X0 : Stand p l e own_room2 s m #[(.ref r0), (.int p1), (.int p2), (.int p3)] below meth c s₁ [] 0 0 := Stand.of_body Bd
  have e0 : s₁.heap = h0 := by rw [← hh, Bd.state]; rfl
  have N0 := Fr.nil n0
  refine own_enter (ef_2 m r0 p1 p2 p3) ?_
  show own_Goes p.tables e below (s₁.setTop (mkF m 0 #[.val (.ref r0), .val (.int p1), .val (.int p2), .val (.int p3)] [])) (own_P s (own_Qp (some (.int (own_f2 ys p1 p2 p3))) h0) own_room2.cells own_room2.slots)
  refine own_step (fun _ => XS.iloadN X0.here hx rfl (hb hby d2_0) rfl) ?_
  show own_Goes p.tables e below (s₁.setTop (mkF m 1 #[.val (.ref r0), .val (.int p1), .val (.int p2), .val (.int p3)] [(.int p1)])) _
  refine own_step (fun _ => XS.iloadN X0.here hx rfl (hb hby d2_1) rfl) ?_
  show own_Goes p.tables e below (s₁.setTop (mkF m 2 #[.val (.ref r0), .val (.int p1), .val (.int p2), .val (.int p3)] [(.int p2), (.int p1)])) _
  refine own_step (fun _ => XS.iloadN X0.here hx rfl (hb hby d2_2) rfl) ?_
  show own_Goes p.tables e below (s₁.setTop (mkF m 3 #[.val (.ref r0), .val (.int p1), .val (.int p2), .val (.int p3)] [(.int p3), (.int p2), (.int p1)])) _
  obtain ⟨_, _, ⟨T1, L1, k1, n1⟩, -, X1, ⟨Lc1, hQ1, l1, y1, z1⟩, st1⟩ := Jvm.LawKit.callS X0 hx (y := (⟨"com/example/kolektyv/kolektyv/records/Iso2709ReaderDigitsPinLaw", "inside", "(III)Z"⟩ : MethodName)) hown (mvT hZ (hw _ (List.mem_of_getElem? (i := 10) rfl))) (mvT hZ (hw _ (List.mem_of_getElem? (i := 11) rfl))) (mvT hZ (hw _ (List.mem_of_getElem? (i := 3) rfl))) (mvT hZ (hw _ (List.mem_of_getElem? (i := 12) rfl))) (by decide) (backOf (W := 0) (rm3 l Z a0 hw [] p1 p2 p3 h0 n0 Z0) hZ (hw _ (List.mem_of_getElem? (i := 12) rfl)) (hw _ (List.mem_of_getElem? (i := 3) rfl)) (by decide) (by decide)) (g := (mkF m 3 #[.val (.ref r0), .val (.int p1), .val (.int p2), .val (.int p3)] [(.int p3), (.int p2), (.int p1)])) rfl (by rw [hml]; rfl) (argsL := [(.int p1), (.int p2), (.int p3)]) (rest := []) (lenOf pd_2_0 rfl) rfl (by show 2 * 0 + _ ≤ _; exact Nat.le_of_eq rfl) (hb hby d2_3) (fun _ _ => ⟨rfl, e0, (by decide : 0 + 0 ≤ _), (by decide : 0 + 0 ≤ _)⟩)
  dsimp only [Pt.U, Pt.locs, Pt.cells, Pt.slots] at X1 l1 y1 z1 st1 hQ1
  subst l1 y1 z1
  obtain ⟨rfl, rfl, e1⟩ := hQ1
  have X1 : Stand p l e own_room2 s m #[(.ref r0), (.int p1), (.int p2), (.int p3)] below meth c T1 [] 0 0 := own_flat X1
  refine own_step (st1) ?_
  show own_Goes p.tables e below (T1.setTop (mkF m 6 #[.val (.ref r0), .val (.int p1), .val (.int p2), .val (.int p3)] [(.int (own_f3 p1 p2 p3))])) _
  have J25 : ∀ (T_25 : State) (X_25 : Stand p l e own_room2 s m #[(.ref r0), (.int p1), (.int p2), (.int p3)] below meth c T_25 [] 0 0) (e_25 : T_25.heap = h0), own_Goes p.tables e below (T_25.setTop (mkF m 25 #[.val (.ref r0), .val (.int p1), .val (.int p2), .val (.int p3)] [])) (own_P s (own_Qp (some (.int (own_f2_25))) h0) own_room2.cells own_room2.slots) := by
    intro T_25 X_25 e_25
    refine own_step (fun _ => XS.iconst X_25.here hx rfl (hb hby d2_25)) ?_
    show own_Goes p.tables e below (T_25.setTop (mkF m 26 #[.val (.ref r0), .val (.int p1), .val (.int p2), .val (.int p3)] [(.int (1 : Int32))])) _
    refine own_step (fun _ => XS.goto X_25.here hx rfl (pc0 := 26) (pc' := 30) rfl (hb hby d2_26) (by decide) (by decide)) ?_
    show own_Goes p.tables e below (T_25.setTop (mkF m 30 #[.val (.ref r0), .val (.int p1), .val (.int p2), .val (.int p3)] [(.int (1 : Int32))])) _
    have hv : (own_f2_25) = (1 : Int32) := by exact rfl
    rw [hv]
    exact own_retN X_25 hx (t := .boolean) Bd.returns (by simp) (hb hby d2_30) (BodyLoose.notSynchronized Bd) (w := (1 : Int32)) rfl ⟨rfl, rfl, e_25⟩ (by decide) (by decide)
  by_cases hc6 : (own_f3 p1 p2 p3) = 0
  · refine own_step (fun _ => XS.ifYes X1.here hx rfl (pc0 := 6) (pc' := 25) rfl (hb hby d2_6) rfl (Jvm.Free.XT.i0_eq_t hc6) (by decide) (by decide)) ?_
    show own_Goes p.tables e below (T1.setTop (mkF m 25 #[.val (.ref r0), .val (.int p1), .val (.int p2), .val (.int p3)] [])) _
    have hv : (own_f2 ys p1 p2 p3) = (own_f2_25) := by exact (if_pos hc6)
    rw [hv]
    exact J25 T1 X1 e1
  · refine own_step (fun _ => XS.ifNo X1.here hx rfl (hb hby d2_6) rfl (Jvm.Free.XT.i0_eq_f hc6)) ?_
    show own_Goes p.tables e below (T1.setTop (mkF m 9 #[.val (.ref r0), .val (.int p1), .val (.int p2), .val (.int p3)] [])) _
    refine own_step (fun _ => XS.aloadN X1.here hx rfl (hb hby d2_9) rfl rfl) ?_
    show own_Goes p.tables e below (T1.setTop (mkF m 10 #[.val (.ref r0), .val (.int p1), .val (.int p2), .val (.int p3)] [(.ref r0)])) _
    refine own_step (fun _ => XS.iloadN X1.here hx rfl (hb hby d2_10) rfl) ?_
    show own_Goes p.tables e below (T1.setTop (mkF m 11 #[.val (.ref r0), .val (.int p1), .val (.int p2), .val (.int p3)] [(.int p1), (.ref r0)])) _
    refine own_step (own_ldB X1 hx hZ e1 V_r0 (j := p1) hp (g := (mkF m 11 #[.val (.ref r0), .val (.int p1), .val (.int p2), .val (.int p3)] [(.int p1), (.ref r0)])) rfl rfl (hb hby d2_11)) ?_
    show own_Goes p.tables e below (T1.setTop (mkF m 12 #[.val (.ref r0), .val (.int p1), .val (.int p2), .val (.int p3)] [(.int (ys.getD p1.toNatClampNeg 0))])) _
    refine own_step (fun _ => XS.bipush X1.here hx rfl (hb hby d2_12)) ?_
    show own_Goes p.tables e below (T1.setTop (mkF m 14 #[.val (.ref r0), .val (.int p1), .val (.int p2), .val (.int p3)] [(.int (48 : Int32)), (.int (ys.getD p1.toNatClampNeg 0))])) _
    have J29 : ∀ (T_29 : State) (X_29 : Stand p l e own_room2 s m #[(.ref r0), (.int p1), (.int p2), (.int p3)] below meth c T_29 [] 0 0) (e_29 : T_29.heap = h0), own_Goes p.tables e below (T_29.setTop (mkF m 29 #[.val (.ref r0), .val (.int p1), .val (.int p2), .val (.int p3)] [])) (own_P s (own_Qp (some (.int (own_f2_29))) h0) own_room2.cells own_room2.slots) := by
      intro T_29 X_29 e_29
      refine own_step (fun _ => XS.iconst X_29.here hx rfl (hb hby d2_29)) ?_
      show own_Goes p.tables e below (T_29.setTop (mkF m 30 #[.val (.ref r0), .val (.int p1), .val (.int p2), .val (.int p3)] [(.int (0 : Int32))])) _
      have hv : (own_f2_29) = (0 : Int32) := by exact rfl
      rw [hv]
      exact own_retN X_29 hx (t := .boolean) Bd.returns (by simp) (hb hby d2_30) (BodyLoose.notSynchronized Bd) (w := (0 : Int32)) rfl ⟨rfl, rfl, e_29⟩ (by decide) (by decide)
    by_cases hc14 : (ys.getD p1.toNatClampNeg 0) < (48 : Int32)
    · refine own_step (fun _ => XS.icmpYes X1.here hx rfl (pc0 := 14) (pc' := 29) rfl (hb hby d2_14) rfl (Jvm.Free.XT.ii_lt_t hc14) (by decide) (by decide)) ?_
      show own_Goes p.tables e below (T1.setTop (mkF m 29 #[.val (.ref r0), .val (.int p1), .val (.int p2), .val (.int p3)] [])) _
      have hv : (own_f2 ys p1 p2 p3) = (own_f2_29) := by exact ((if_neg hc6)).trans (if_pos hc14)
      rw [hv]
      exact J29 T1 X1 e1
    · refine own_step (fun _ => XS.icmpNo X1.here hx rfl (hb hby d2_14) rfl (Jvm.Free.XT.ii_lt_f hc14)) ?_
      show own_Goes p.tables e below (T1.setTop (mkF m 17 #[.val (.ref r0), .val (.int p1), .val (.int p2), .val (.int p3)] [])) _
      refine own_step (fun _ => XS.aloadN X1.here hx rfl (hb hby d2_17) rfl rfl) ?_
      show own_Goes p.tables e below (T1.setTop (mkF m 18 #[.val (.ref r0), .val (.int p1), .val (.int p2), .val (.int p3)] [(.ref r0)])) _
      refine own_step (fun _ => XS.iloadN X1.here hx rfl (hb hby d2_18) rfl) ?_
      show own_Goes p.tables e below (T1.setTop (mkF m 19 #[.val (.ref r0), .val (.int p1), .val (.int p2), .val (.int p3)] [(.int p1), (.ref r0)])) _
      refine own_step (own_ldB X1 hx hZ e1 V_r0 (j := p1) hp (g := (mkF m 19 #[.val (.ref r0), .val (.int p1), .val (.int p2), .val (.int p3)] [(.int p1), (.ref r0)])) rfl rfl (hb hby d2_19)) ?_
      show own_Goes p.tables e below (T1.setTop (mkF m 20 #[.val (.ref r0), .val (.int p1), .val (.int p2), .val (.int p3)] [(.int (ys.getD p1.toNatClampNeg 0))])) _
      refine own_step (fun _ => XS.bipush X1.here hx rfl (hb hby d2_20)) ?_
      show own_Goes p.tables e below (T1.setTop (mkF m 22 #[.val (.ref r0), .val (.int p1), .val (.int p2), .val (.int p3)] [(.int (57 : Int32)), (.int (ys.getD p1.toNatClampNeg 0))])) _
      by_cases hc22 : (57 : Int32) < (ys.getD p1.toNatClampNeg 0)
      · refine own_step (fun _ => XS.icmpYes X1.here hx rfl (pc0 := 22) (pc' := 29) rfl (hb hby d2_22) rfl (Jvm.Free.XT.ii_gt_t hc22) (by decide) (by decide)) ?_
        show own_Goes p.tables e below (T1.setTop (mkF m 29 #[.val (.ref r0), .val (.int p1), .val (.int p2), .val (.int p3)] [])) _
        have hv : (own_f2 ys p1 p2 p3) = (own_f2_29) := by exact (((if_neg hc6)).trans (if_neg hc14)).trans (if_pos hc22)
        rw [hv]
        exact J29 T1 X1 e1
      · refine own_step (fun _ => XS.icmpNo X1.here hx rfl (hb hby d2_22) rfl (Jvm.Free.XT.ii_gt_f hc22)) ?_
        show own_Goes p.tables e below (T1.setTop (mkF m 25 #[.val (.ref r0), .val (.int p1), .val (.int p2), .val (.int p3)] [])) _
        have hv : (own_f2 ys p1 p2 p3) = (own_f2_25) := by exact (((if_neg hc6)).trans (if_neg hc14)).trans (if_neg hc22)
        rw [hv]
        exact J25 T1 X1 e1
theorem d6_0 : decode method_7_code 0 = .ok (.iload_n 0, 1) := by decide +kernel
theorem d6_1 : decode method_7_code 1 = .ok (.ifCond .ne 5, 3) := by decide +kernel
theorem d6_4 : decode method_7_code 4 = .ok (.iconst 1, 1) := by decide +kernel
theorem d6_5 : decode method_7_code 5 = .ok (.ireturn, 1) := by decide +kernel
theorem d6_6 : decode method_7_code 6 = .ok (.iload_n 0, 1) := by decide +kernel
theorem d6_7 : decode method_7_code 7 = .ok (.iconst 1, 1) := by decide +kernel
theorem d6_8 : decode method_7_code 8 = .ok (.if_icmp .ne 6, 3) := by decide +kernel
theorem d6_11 : decode method_7_code 11 = .ok (.bipush 10, 2) := by decide +kernel
theorem d6_13 : decode method_7_code 13 = .ok (.ireturn, 1) := by decide +kernel
theorem d6_14 : decode method_7_code 14 = .ok (.iload_n 0, 1) := by decide +kernel
theorem d6_15 : decode method_7_code 15 = .ok (.iconst 2, 1) := by decide +kernel
theorem d6_16 : decode method_7_code 16 = .ok (.if_icmp .ne 6, 3) := by decide +kernel
theorem d6_19 : decode method_7_code 19 = .ok (.bipush 100, 2) := by decide +kernel
theorem d6_21 : decode method_7_code 21 = .ok (.ireturn, 1) := by decide +kernel
theorem d6_22 : decode method_7_code 22 = .ok (.iload_n 0, 1) := by decide +kernel
theorem d6_23 : decode method_7_code 23 = .ok (.iconst 3, 1) := by decide +kernel
theorem d6_24 : decode method_7_code 24 = .ok (.if_icmp .ne 7, 3) := by decide +kernel
theorem d6_27 : decode method_7_code 27 = .ok (.sipush 1000, 3) := by decide +kernel
theorem d6_30 : decode method_7_code 30 = .ok (.ireturn, 1) := by decide +kernel
theorem d6_31 : decode method_7_code 31 = .ok (.iload_n 0, 1) := by decide +kernel
theorem d6_32 : decode method_7_code 32 = .ok (.iconst 4, 1) := by decide +kernel
theorem d6_33 : decode method_7_code 33 = .ok (.if_icmp .ne 7, 3) := by decide +kernel
theorem d6_36 : decode method_7_code 36 = .ok (.sipush 10000, 3) := by decide +kernel
theorem d6_39 : decode method_7_code 39 = .ok (.ireturn, 1) := by decide +kernel
theorem d6_40 : decode method_7_code 40 = .ok (.iload_n 0, 1) := by decide +kernel
theorem d6_41 : decode method_7_code 41 = .ok (.iconst 5, 1) := by decide +kernel
theorem d6_42 : decode method_7_code 42 = .ok (.if_icmp .ne 6, 3) := by decide +kernel
theorem d6_45 : decode method_7_code 45 = .ok (.ldc 38, 2) := by decide +kernel
theorem d6_47 : decode method_7_code 47 = .ok (.ireturn, 1) := by decide +kernel
theorem d6_48 : decode method_7_code 48 = .ok (.iload_n 0, 1) := by decide +kernel
theorem d6_49 : decode method_7_code 49 = .ok (.bipush 6, 2) := by decide +kernel
theorem d6_51 : decode method_7_code 51 = .ok (.if_icmp .ne 6, 3) := by decide +kernel
theorem d6_54 : decode method_7_code 54 = .ok (.ldc 39, 2) := by decide +kernel
theorem d6_56 : decode method_7_code 56 = .ok (.ireturn, 1) := by decide +kernel
theorem d6_57 : decode method_7_code 57 = .ok (.ldc 40, 2) := by decide +kernel
theorem d6_59 : decode method_7_code 59 = .ok (.ireturn, 1) := by decide +kernel
theorem pn_6 : plainName "com/example/kolektyv/kolektyv/records/Iso2709ReaderDigitsPinLaw" = true := by first | (simp [plainName, overriddenIn]; done) | decide +kernel
theorem ef_6 (m : MethodId) (p0 : Int32) : entryFrame m #[(.int p0)] 1 = mkF m 0 #[.val (.int p0)] [] := by first | (simp [entryFrame, mkF, argsToLocals, Value.category]; done) | rfl
def own_f6 (p0 : Int32) : Int32 :=
  if p0 = 0 then
    (1 : Int32)
  else
    if p0 = (1 : Int32) then
      (10 : Int32)
    else
      if p0 = (2 : Int32) then
        (100 : Int32)
      else
        if p0 = (3 : Int32) then
          (1000 : Int32)
        else
          if p0 = (4 : Int32) then
            (10000 : Int32)
          else
            if p0 = (5 : Int32) then
              (100000 : Int32)
            else
              if p0 = (6 : Int32) then
                (1000000 : Int32)
              else
                (10000000 : Int32)
abbrev own_room6 : Room := { frames := 0, cells := 0, slots := 0, locals := 0 }
set_option maxRecDepth 65536 in
set_option maxHeartbeats 40000000 in
theorem rm6 (l : Launch) (Z : State) (a0 : Array Value) (hw : ∀ d ∈ tables_1, d.before a0 Z = true) (ws : List Jvm.Cond) (p0 : Int32) (h0 : Heap) (n0 : Nat) (Z0 : n0 ≤ h0.size) :
    MetFree l (⟨"com/example/kolektyv/kolektyv/records/Iso2709ReaderDigitsPinLaw", "pow10", "(I)I"⟩ : MethodName) (head1 (Jvm.Cond.code (⟨"com/example/kolektyv/kolektyv/records/Iso2709ReaderDigitsPinLaw", "pow10", "(I)I"⟩ : MethodName) method_7_code 1 (some .int) :: ws) own_room6) (fun a U => a = #[(.int p0)] ∧ Z.Warmed39 U.vm ∧ U.heap = h0) (fun _ _ _ _ _ => True) (fun _ U o U' => ∃ v L, o = .returned v ∧ own_Qp (some (.int (own_f6 p0))) h0 v U'.heap L ∧ FrameEnd U o U' L own_room6.cells own_room6.slots) := by
  refine MetFree.of_bodySF (plainFor_of_name pn_6) hisR ?_
  intro p e s m args below meth c s₁ Bd hml0 hP hK
  obtain ⟨rfl, hZ, hh⟩ := hP
  have hx := Bd.exec
  have hby := Bd.bytes
  have hml : c.maxLocals = 1 := hml0
  have hown : s.vm.findClass "com/example/kolektyv/kolektyv/records/Iso2709ReaderDigitsPinLaw" = some m.cls := findClass_of_methodNamed Bd.named
  have hnm := (name_of_methodNamed Bd.named Bd.method).1
  have X0 : Stand p l e own_room6 s m #[(.int p0)] below meth c s₁ [] 0 0 := Stand.of_body Bd
  have e0 : s₁.heap = h0 := by rw [← hh, Bd.state]; rfl
  have N0 := Fr.nil n0
  refine own_enter (ef_6 m p0) ?_
  show own_Goes p.tables e below (s₁.setTop (mkF m 0 #[.val (.int p0)] [])) (own_P s (own_Qp (some (.int (own_f6 p0))) h0) own_room6.cells own_room6.slots)
  refine own_step (fun _ => XS.iloadN X0.here hx rfl (hb hby d6_0) rfl) ?_
  show own_Goes p.tables e below (s₁.setTop (mkF m 1 #[.val (.int p0)] [(.int p0)])) _
  by_cases hc1 : p0 = 0
  · refine own_step (fun _ => XS.ifNo X0.here hx rfl (hb hby d6_1) rfl (Jvm.Free.XT.i0_ne_f hc1)) ?_
    show own_Goes p.tables e below (s₁.setTop (mkF m 4 #[.val (.int p0)] [])) _
    refine own_step (fun _ => XS.iconst X0.here hx rfl (hb hby d6_4)) ?_
    show own_Goes p.tables e below (s₁.setTop (mkF m 5 #[.val (.int p0)] [(.int (1 : Int32))])) _
    have hv : (own_f6 p0) = (1 : Int32) := by exact (if_pos hc1)
    rw [hv]
    exact own_retI X0 hx Bd.returns (hb hby d6_5) (BodyLoose.notSynchronized Bd) ⟨rfl, rfl, e0⟩ (by decide) (by decide)
  · refine own_step (fun _ => XS.ifYes X0.here hx rfl (pc0 := 1) (pc' := 6) rfl (hb hby d6_1) rfl (Jvm.Free.XT.i0_ne_t hc1) (by decide) (by decide)) ?_
    show own_Goes p.tables e below (s₁.setTop (mkF m 6 #[.val (.int p0)] [])) _
    refine own_step (fun _ => XS.iloadN X0.here hx rfl (hb hby d6_6) rfl) ?_
    show own_Goes p.tables e below (s₁.setTop (mkF m 7 #[.val (.int p0)] [(.int p0)])) _
    refine own_step (fun _ => XS.iconst X0.here hx rfl (hb hby d6_7)) ?_
    show own_Goes p.tables e below (s₁.setTop (mkF m 8 #[.val (.int p0)] [(.int (1 : Int32)), (.int p0)])) _
    by_cases hc8 : p0 = (1 : Int32)
    · refine own_step (fun _ => XS.icmpNo X0.here hx rfl (hb hby d6_8) rfl (Jvm.Free.XT.ii_ne_f hc8)) ?_
      show own_Goes p.tables e below (s₁.setTop (mkF m 11 #[.val (.int p0)] [])) _
      refine own_step (fun _ => XS.bipush X0.here hx rfl (hb hby d6_11)) ?_
      show own_Goes p.tables e below (s₁.setTop (mkF m 13 #[.val (.int p0)] [(.int (10 : Int32))])) _
      have hv : (own_f6 p0) = (10 : Int32) := by exact ((if_neg hc1)).trans (if_pos hc8)
      rw [hv]
      exact own_retI X0 hx Bd.returns (hb hby d6_13) (BodyLoose.notSynchronized Bd) ⟨rfl, rfl, e0⟩ (by decide) (by decide)
    · refine own_step (fun _ => XS.icmpYes X0.here hx rfl (pc0 := 8) (pc' := 14) rfl (hb hby d6_8) rfl (Jvm.Free.XT.ii_ne_t hc8) (by decide) (by decide)) ?_
      show own_Goes p.tables e below (s₁.setTop (mkF m 14 #[.val (.int p0)] [])) _
      refine own_step (fun _ => XS.iloadN X0.here hx rfl (hb hby d6_14) rfl) ?_
      show own_Goes p.tables e below (s₁.setTop (mkF m 15 #[.val (.int p0)] [(.int p0)])) _
      refine own_step (fun _ => XS.iconst X0.here hx rfl (hb hby d6_15)) ?_
      show own_Goes p.tables e below (s₁.setTop (mkF m 16 #[.val (.int p0)] [(.int (2 : Int32)), (.int p0)])) _
      by_cases hc16 : p0 = (2 : Int32)
      · refine own_step (fun _ => XS.icmpNo X0.here hx rfl (hb hby d6_16) rfl (Jvm.Free.XT.ii_ne_f hc16)) ?_
        show own_Goes p.tables e below (s₁.setTop (mkF m 19 #[.val (.int p0)] [])) _
        refine own_step (fun _ => XS.bipush X0.here hx rfl (hb hby d6_19)) ?_
        show own_Goes p.tables e below (s₁.setTop (mkF m 21 #[.val (.int p0)] [(.int (100 : Int32))])) _
        have hv : (own_f6 p0) = (100 : Int32) := by exact (((if_neg hc1)).trans (if_neg hc8)).trans (if_pos hc16)
        rw [hv]
        exact own_retI X0 hx Bd.returns (hb hby d6_21) (BodyLoose.notSynchronized Bd) ⟨rfl, rfl, e0⟩ (by decide) (by decide)
      · refine own_step (fun _ => XS.icmpYes X0.here hx rfl (pc0 := 16) (pc' := 22) rfl (hb hby d6_16) rfl (Jvm.Free.XT.ii_ne_t hc16) (by decide) (by decide)) ?_
        show own_Goes p.tables e below (s₁.setTop (mkF m 22 #[.val (.int p0)] [])) _
        refine own_step (fun _ => XS.iloadN X0.here hx rfl (hb hby d6_22) rfl) ?_
        show own_Goes p.tables e below (s₁.setTop (mkF m 23 #[.val (.int p0)] [(.int p0)])) _
        refine own_step (fun _ => XS.iconst X0.here hx rfl (hb hby d6_23)) ?_
        show own_Goes p.tables e below (s₁.setTop (mkF m 24 #[.val (.int p0)] [(.int (3 : Int32)), (.int p0)])) _
        by_cases hc24 : p0 = (3 : Int32)
        · refine own_step (fun _ => XS.icmpNo X0.here hx rfl (hb hby d6_24) rfl (Jvm.Free.XT.ii_ne_f hc24)) ?_
          show own_Goes p.tables e below (s₁.setTop (mkF m 27 #[.val (.int p0)] [])) _
          refine own_step (fun _ => XS.sipush X0.here hx rfl (hb hby d6_27)) ?_
          show own_Goes p.tables e below (s₁.setTop (mkF m 30 #[.val (.int p0)] [(.int (1000 : Int32))])) _
          have hv : (own_f6 p0) = (1000 : Int32) := by exact ((((if_neg hc1)).trans (if_neg hc8)).trans (if_neg hc16)).trans (if_pos hc24)
          rw [hv]
          exact own_retI X0 hx Bd.returns (hb hby d6_30) (BodyLoose.notSynchronized Bd) ⟨rfl, rfl, e0⟩ (by decide) (by decide)
        · refine own_step (fun _ => XS.icmpYes X0.here hx rfl (pc0 := 24) (pc' := 31) rfl (hb hby d6_24) rfl (Jvm.Free.XT.ii_ne_t hc24) (by decide) (by decide)) ?_
          show own_Goes p.tables e below (s₁.setTop (mkF m 31 #[.val (.int p0)] [])) _
          refine own_step (fun _ => XS.iloadN X0.here hx rfl (hb hby d6_31) rfl) ?_
          show own_Goes p.tables e below (s₁.setTop (mkF m 32 #[.val (.int p0)] [(.int p0)])) _
          refine own_step (fun _ => XS.iconst X0.here hx rfl (hb hby d6_32)) ?_
          show own_Goes p.tables e below (s₁.setTop (mkF m 33 #[.val (.int p0)] [(.int (4 : Int32)), (.int p0)])) _
          by_cases hc33 : p0 = (4 : Int32)
          · refine own_step (fun _ => XS.icmpNo X0.here hx rfl (hb hby d6_33) rfl (Jvm.Free.XT.ii_ne_f hc33)) ?_
            show own_Goes p.tables e below (s₁.setTop (mkF m 36 #[.val (.int p0)] [])) _
            refine own_step (fun _ => XS.sipush X0.here hx rfl (hb hby d6_36)) ?_
            show own_Goes p.tables e below (s₁.setTop (mkF m 39 #[.val (.int p0)] [(.int (10000 : Int32))])) _
            have hv : (own_f6 p0) = (10000 : Int32) := by exact (((((if_neg hc1)).trans (if_neg hc8)).trans (if_neg hc16)).trans (if_neg hc24)).trans (if_pos hc33)
            rw [hv]
            exact own_retI X0 hx Bd.returns (hb hby d6_39) (BodyLoose.notSynchronized Bd) ⟨rfl, rfl, e0⟩ (by decide) (by decide)
          · refine own_step (fun _ => XS.icmpYes X0.here hx rfl (pc0 := 33) (pc' := 40) rfl (hb hby d6_33) rfl (Jvm.Free.XT.ii_ne_t hc33) (by decide) (by decide)) ?_
            show own_Goes p.tables e below (s₁.setTop (mkF m 40 #[.val (.int p0)] [])) _
            refine own_step (fun _ => XS.iloadN X0.here hx rfl (hb hby d6_40) rfl) ?_
            show own_Goes p.tables e below (s₁.setTop (mkF m 41 #[.val (.int p0)] [(.int p0)])) _
            refine own_step (fun _ => XS.iconst X0.here hx rfl (hb hby d6_41)) ?_
            show own_Goes p.tables e below (s₁.setTop (mkF m 42 #[.val (.int p0)] [(.int (5 : Int32)), (.int p0)])) _
            by_cases hc42 : p0 = (5 : Int32)
            · refine own_step (fun _ => XS.icmpNo X0.here hx rfl (hb hby d6_42) rfl (Jvm.Free.XT.ii_ne_f hc42)) ?_
              show own_Goes p.tables e below (s₁.setTop (mkF m 45 #[.val (.int p0)] [])) _
              refine own_step (X0.ldcInt hx hown (mvT hZ (hw _ (List.mem_of_getElem? (i := 25) rfl))) (g := (mkF m 45 #[.val (.int p0)] [])) rfl (hb hby d6_45)) ?_
              show own_Goes p.tables e below (s₁.setTop (mkF m 47 #[.val (.int p0)] [(.int (100000 : Int32))])) _
              have hv : (own_f6 p0) = (100000 : Int32) := by exact ((((((if_neg hc1)).trans (if_neg hc8)).trans (if_neg hc16)).trans (if_neg hc24)).trans (if_neg hc33)).trans (if_pos hc42)
              rw [hv]
              exact own_retI X0 hx Bd.returns (hb hby d6_47) (BodyLoose.notSynchronized Bd) ⟨rfl, rfl, e0⟩ (by decide) (by decide)
            · refine own_step (fun _ => XS.icmpYes X0.here hx rfl (pc0 := 42) (pc' := 48) rfl (hb hby d6_42) rfl (Jvm.Free.XT.ii_ne_t hc42) (by decide) (by decide)) ?_
              show own_Goes p.tables e below (s₁.setTop (mkF m 48 #[.val (.int p0)] [])) _
              refine own_step (fun _ => XS.iloadN X0.here hx rfl (hb hby d6_48) rfl) ?_
              show own_Goes p.tables e below (s₁.setTop (mkF m 49 #[.val (.int p0)] [(.int p0)])) _
              refine own_step (fun _ => XS.bipush X0.here hx rfl (hb hby d6_49)) ?_
              show own_Goes p.tables e below (s₁.setTop (mkF m 51 #[.val (.int p0)] [(.int (6 : Int32)), (.int p0)])) _
              by_cases hc51 : p0 = (6 : Int32)
              · refine own_step (fun _ => XS.icmpNo X0.here hx rfl (hb hby d6_51) rfl (Jvm.Free.XT.ii_ne_f hc51)) ?_
                show own_Goes p.tables e below (s₁.setTop (mkF m 54 #[.val (.int p0)] [])) _
                refine own_step (X0.ldcInt hx hown (mvT hZ (hw _ (List.mem_of_getElem? (i := 24) rfl))) (g := (mkF m 54 #[.val (.int p0)] [])) rfl (hb hby d6_54)) ?_
                show own_Goes p.tables e below (s₁.setTop (mkF m 56 #[.val (.int p0)] [(.int (1000000 : Int32))])) _
                have hv : (own_f6 p0) = (1000000 : Int32) := by exact (((((((if_neg hc1)).trans (if_neg hc8)).trans (if_neg hc16)).trans (if_neg hc24)).trans (if_neg hc33)).trans (if_neg hc42)).trans (if_pos hc51)
                rw [hv]
                exact own_retI X0 hx Bd.returns (hb hby d6_56) (BodyLoose.notSynchronized Bd) ⟨rfl, rfl, e0⟩ (by decide) (by decide)
              · refine own_step (fun _ => XS.icmpYes X0.here hx rfl (pc0 := 51) (pc' := 57) rfl (hb hby d6_51) rfl (Jvm.Free.XT.ii_ne_t hc51) (by decide) (by decide)) ?_
                show own_Goes p.tables e below (s₁.setTop (mkF m 57 #[.val (.int p0)] [])) _
                refine own_step (X0.ldcInt hx hown (mvT hZ (hw _ (List.mem_of_getElem? (i := 23) rfl))) (g := (mkF m 57 #[.val (.int p0)] [])) rfl (hb hby d6_57)) ?_
                show own_Goes p.tables e below (s₁.setTop (mkF m 59 #[.val (.int p0)] [(.int (10000000 : Int32))])) _
                have hv : (own_f6 p0) = (10000000 : Int32) := by exact (((((((if_neg hc1)).trans (if_neg hc8)).trans (if_neg hc16)).trans (if_neg hc24)).trans (if_neg hc33)).trans (if_neg hc42)).trans (if_neg hc51)
                rw [hv]
                exact own_retI X0 hx Bd.returns (hb hby d6_59) (BodyLoose.notSynchronized Bd) ⟨rfl, rfl, e0⟩ (by decide) (by decide)
theorem d5_0 : decode method_6_code 0 = .ok (.iload_n 1, 1) := by decide +kernel
theorem d5_1 : decode method_6_code 1 = .ok (.iload_n 2, 1) := by decide +kernel
theorem d5_2 : decode method_6_code 2 = .ok (.iload_n 3, 1) := by decide +kernel
theorem d5_3 : decode method_6_code 3 = .ok (.invokestatic 30, 3) := by decide +kernel
theorem d5_6 : decode method_6_code 6 = .ok (.ifCond .ne 5, 3) := by decide +kernel
theorem d5_9 : decode method_6_code 9 = .ok (.iconst 0, 1) := by decide +kernel
theorem d5_10 : decode method_6_code 10 = .ok (.ireturn, 1) := by decide +kernel
theorem d5_11 : decode method_6_code 11 = .ok (.aload_n 0, 1) := by decide +kernel
theorem d5_12 : decode method_6_code 12 = .ok (.iload_n 1, 1) := by decide +kernel
theorem d5_13 : decode method_6_code 13 = .ok (.baload, 1) := by decide +kernel
theorem d5_14 : decode method_6_code 14 = .ok (.bipush 48, 2) := by decide +kernel
theorem d5_16 : decode method_6_code 16 = .ok (.isub, 1) := by decide +kernel
theorem d5_17 : decode method_6_code 17 = .ok (.iload_n 2, 1) := by decide +kernel
theorem d5_18 : decode method_6_code 18 = .ok (.iload_n 3, 1) := by decide +kernel
theorem d5_19 : decode method_6_code 19 = .ok (.iadd, 1) := by decide +kernel
theorem d5_20 : decode method_6_code 20 = .ok (.iconst 1, 1) := by decide +kernel
theorem d5_21 : decode method_6_code 21 = .ok (.isub, 1) := by decide +kernel
theorem d5_22 : decode method_6_code 22 = .ok (.iload_n 1, 1) := by decide +kernel
theorem d5_23 : decode method_6_code 23 = .ok (.isub, 1) := by decide +kernel
theorem d5_24 : decode method_6_code 24 = .ok (.invokestatic 34, 3) := by decide +kernel
theorem d5_27 : decode method_6_code 27 = .ok (.imul, 1) := by decide +kernel
theorem d5_28 : decode method_6_code 28 = .ok (.ireturn, 1) := by decide +kernel
theorem pn_5 : plainName "com/example/kolektyv/kolektyv/records/Iso2709ReaderDigitsPinLaw" = true := by first | (simp [plainName, overriddenIn]; done) | decide +kernel
theorem pd_5_0 : parseMethodDescriptor "(III)Z" = some ⟨[.int, .int, .int], some .boolean⟩ := by decide +kernel
theorem pd_5_1 : parseMethodDescriptor "(I)I" = some ⟨[.int], some .int⟩ := by decide +kernel
theorem ef_5 (m : MethodId) (r0 : Addr) (p1 : Int32) (p2 : Int32) (p3 : Int32) : entryFrame m #[(.ref r0), (.int p1), (.int p2), (.int p3)] 4 = mkF m 0 #[.val (.ref r0), .val (.int p1), .val (.int p2), .val (.int p3)] [] := by first | (simp [entryFrame, mkF, argsToLocals, Value.category]; done) | rfl
def own_f5 (ys : List Int32) (p1 : Int32) (p2 : Int32) (p3 : Int32) : Int32 :=
  if (own_f3 p1 p2 p3) = 0 then
    (0 : Int32)
  else
    (((ys.getD p1.toNatClampNeg 0) - (48 : Int32)) * (own_f6 (((p2 + p3) - (1 : Int32)) - p1)))
abbrev own_room5 : Room := { frames := 1, cells := 0, slots := 0, locals := 14 }
set_option maxRecDepth 65536 in
set_option maxHeartbeats 40000000 in
theorem rm5 (l : Launch) (Z : State) (a0 : Array Value) (hw : ∀ d ∈ tables_1, d.before a0 Z = true) (ws : List Jvm.Cond) (r0 : Addr) (p1 : Int32) (p2 : Int32) (p3 : Int32) (ys : List Int32) (k_r0 : ClassId) (h0 : Heap) (n0 : Nat) (Z0 : n0 ≤ h0.size) (V_r0 : own_A Z h0 r0 k_r0 .byte (8 : Int32) ys) (hp : ¬ p1 < 0 ∧ p1 < 8) :
    MetFree l (⟨"com/example/kolektyv/kolektyv/records/Iso2709ReaderDigitsPinLaw", "term", "([BIII)I"⟩ : MethodName) (head1 (Jvm.Cond.code (⟨"com/example/kolektyv/kolektyv/records/Iso2709ReaderDigitsPinLaw", "term", "([BIII)I"⟩ : MethodName) method_6_code 4 (some .int) :: ws) own_room5) (fun a U => a = #[(.ref r0), (.int p1), (.int p2), (.int p3)] ∧ Z.Warmed39 U.vm ∧ U.heap = h0) (fun _ _ _ _ _ => True) (fun _ U o U' => ∃ v L, o = .returned v ∧ own_Qp (some (.int (own_f5 ys p1 p2 p3))) h0 v U'.heap L ∧ FrameEnd U o U' L own_room5.cells own_room5.slots) := by
  refine MetFree.of_bodySF (plainFor_of_name pn_5) hisR ?_
  intro p e s m args below meth c s₁ Bd hml0 hP hK
  obtain ⟨rfl, hZ, hh⟩ := hP
  have hx := Bd.exec
  have hby := Bd.bytes
  have hml : c.maxLocals = 4 := hml0
  have hown : s.vm.findClass "com/example/kolektyv/kolektyv/records/Iso2709ReaderDigitsPinLaw" = some m.cls := findClass_of_methodNamed Bd.named
  have hnm := (name_of_methodNamed Bd.named Bd.method).1
  have X0 : Stand p l e own_room5 s m #[(.ref r0), (.int p1), (.int p2), (.int p3)] below meth c s₁ [] 0 0 := Stand.of_body Bd
  have e0 : s₁.heap = h0 := by rw [← hh, Bd.state]; rfl
  have N0 := Fr.nil n0
  refine own_enter (ef_5 m r0 p1 p2 p3) ?_
  show own_Goes p.tables e below (s₁.setTop (mkF m 0 #[.val (.ref r0), .val (.int p1), .val (.int p2), .val (.int p3)] [])) (own_P s (own_Qp (some (.int (own_f5 ys p1 p2 p3))) h0) own_room5.cells own_room5.slots)
  refine own_step (fun _ => XS.iloadN X0.here hx rfl (hb hby d5_0) rfl) ?_
  show own_Goes p.tables e below (s₁.setTop (mkF m 1 #[.val (.ref r0), .val (.int p1), .val (.int p2), .val (.int p3)] [(.int p1)])) _
  refine own_step (fun _ => XS.iloadN X0.here hx rfl (hb hby d5_1) rfl) ?_
  show own_Goes p.tables e below (s₁.setTop (mkF m 2 #[.val (.ref r0), .val (.int p1), .val (.int p2), .val (.int p3)] [(.int p2), (.int p1)])) _
  refine own_step (fun _ => XS.iloadN X0.here hx rfl (hb hby d5_2) rfl) ?_
  show own_Goes p.tables e below (s₁.setTop (mkF m 3 #[.val (.ref r0), .val (.int p1), .val (.int p2), .val (.int p3)] [(.int p3), (.int p2), (.int p1)])) _
  obtain ⟨_, _, ⟨T1, L1, k1, n1⟩, -, X1, ⟨Lc1, hQ1, l1, y1, z1⟩, st1⟩ := Jvm.LawKit.callS X0 hx (y := (⟨"com/example/kolektyv/kolektyv/records/Iso2709ReaderDigitsPinLaw", "inside", "(III)Z"⟩ : MethodName)) hown (mvT hZ (hw _ (List.mem_of_getElem? (i := 10) rfl))) (mvT hZ (hw _ (List.mem_of_getElem? (i := 11) rfl))) (mvT hZ (hw _ (List.mem_of_getElem? (i := 3) rfl))) (mvT hZ (hw _ (List.mem_of_getElem? (i := 12) rfl))) (by decide) (backOf (W := 0) (rm3 l Z a0 hw [] p1 p2 p3 h0 n0 Z0) hZ (hw _ (List.mem_of_getElem? (i := 12) rfl)) (hw _ (List.mem_of_getElem? (i := 3) rfl)) (by decide) (by decide)) (g := (mkF m 3 #[.val (.ref r0), .val (.int p1), .val (.int p2), .val (.int p3)] [(.int p3), (.int p2), (.int p1)])) rfl (by rw [hml]; rfl) (argsL := [(.int p1), (.int p2), (.int p3)]) (rest := []) (lenOf pd_5_0 rfl) rfl (by show 2 * 0 + _ ≤ _; exact Nat.le_of_eq rfl) (hb hby d5_3) (fun _ _ => ⟨rfl, e0, (by decide : 0 + 0 ≤ _), (by decide : 0 + 0 ≤ _)⟩)
  dsimp only [Pt.U, Pt.locs, Pt.cells, Pt.slots] at X1 l1 y1 z1 st1 hQ1
  subst l1 y1 z1
  obtain ⟨rfl, rfl, e1⟩ := hQ1
  have X1 : Stand p l e own_room5 s m #[(.ref r0), (.int p1), (.int p2), (.int p3)] below meth c T1 [] 0 0 := own_flat X1
  refine own_step (st1) ?_
  show own_Goes p.tables e below (T1.setTop (mkF m 6 #[.val (.ref r0), .val (.int p1), .val (.int p2), .val (.int p3)] [(.int (own_f3 p1 p2 p3))])) _
  by_cases hc6 : (own_f3 p1 p2 p3) = 0
  · refine own_step (fun _ => XS.ifNo X1.here hx rfl (hb hby d5_6) rfl (Jvm.Free.XT.i0_ne_f hc6)) ?_
    show own_Goes p.tables e below (T1.setTop (mkF m 9 #[.val (.ref r0), .val (.int p1), .val (.int p2), .val (.int p3)] [])) _
    refine own_step (fun _ => XS.iconst X1.here hx rfl (hb hby d5_9)) ?_
    show own_Goes p.tables e below (T1.setTop (mkF m 10 #[.val (.ref r0), .val (.int p1), .val (.int p2), .val (.int p3)] [(.int (0 : Int32))])) _
    have hv : (own_f5 ys p1 p2 p3) = (0 : Int32) := by exact (if_pos hc6)
    rw [hv]
    exact own_retI X1 hx Bd.returns (hb hby d5_10) (BodyLoose.notSynchronized Bd) ⟨rfl, rfl, e1⟩ (by decide) (by decide)
  · refine own_step (fun _ => XS.ifYes X1.here hx rfl (pc0 := 6) (pc' := 11) rfl (hb hby d5_6) rfl (Jvm.Free.XT.i0_ne_t hc6) (by decide) (by decide)) ?_
    show own_Goes p.tables e below (T1.setTop (mkF m 11 #[.val (.ref r0), .val (.int p1), .val (.int p2), .val (.int p3)] [])) _
    refine own_step (fun _ => XS.aloadN X1.here hx rfl (hb hby d5_11) rfl rfl) ?_
    show own_Goes p.tables e below (T1.setTop (mkF m 12 #[.val (.ref r0), .val (.int p1), .val (.int p2), .val (.int p3)] [(.ref r0)])) _
    refine own_step (fun _ => XS.iloadN X1.here hx rfl (hb hby d5_12) rfl) ?_
    show own_Goes p.tables e below (T1.setTop (mkF m 13 #[.val (.ref r0), .val (.int p1), .val (.int p2), .val (.int p3)] [(.int p1), (.ref r0)])) _
    refine own_step (own_ldB X1 hx hZ e1 V_r0 (j := p1) hp (g := (mkF m 13 #[.val (.ref r0), .val (.int p1), .val (.int p2), .val (.int p3)] [(.int p1), (.ref r0)])) rfl rfl (hb hby d5_13)) ?_
    show own_Goes p.tables e below (T1.setTop (mkF m 14 #[.val (.ref r0), .val (.int p1), .val (.int p2), .val (.int p3)] [(.int (ys.getD p1.toNatClampNeg 0))])) _
    refine own_step (fun _ => XS.bipush X1.here hx rfl (hb hby d5_14)) ?_
    show own_Goes p.tables e below (T1.setTop (mkF m 16 #[.val (.ref r0), .val (.int p1), .val (.int p2), .val (.int p3)] [(.int (48 : Int32)), (.int (ys.getD p1.toNatClampNeg 0))])) _
    refine own_step (fun _ => XS.isub X1.here hx rfl (hb hby d5_16) rfl) ?_
    show own_Goes p.tables e below (T1.setTop (mkF m 17 #[.val (.ref r0), .val (.int p1), .val (.int p2), .val (.int p3)] [(.int ((ys.getD p1.toNatClampNeg 0) - (48 : Int32)))])) _
    refine own_step (fun _ => XS.iloadN X1.here hx rfl (hb hby d5_17) rfl) ?_
    show own_Goes p.tables e below (T1.setTop (mkF m 18 #[.val (.ref r0), .val (.int p1), .val (.int p2), .val (.int p3)] [(.int p2), (.int ((ys.getD p1.toNatClampNeg 0) - (48 : Int32)))])) _
    refine own_step (fun _ => XS.iloadN X1.here hx rfl (hb hby d5_18) rfl) ?_
    show own_Goes p.tables e below (T1.setTop (mkF m 19 #[.val (.ref r0), .val (.int p1), .val (.int p2), .val (.int p3)] [(.int p3), (.int p2), (.int ((ys.getD p1.toNatClampNeg 0) - (48 : Int32)))])) _
    refine own_step (fun _ => XS.iadd X1.here hx rfl (hb hby d5_19) rfl) ?_
    show own_Goes p.tables e below (T1.setTop (mkF m 20 #[.val (.ref r0), .val (.int p1), .val (.int p2), .val (.int p3)] [(.int (p2 + p3)), (.int ((ys.getD p1.toNatClampNeg 0) - (48 : Int32)))])) _
    refine own_step (fun _ => XS.iconst X1.here hx rfl (hb hby d5_20)) ?_
    show own_Goes p.tables e below (T1.setTop (mkF m 21 #[.val (.ref r0), .val (.int p1), .val (.int p2), .val (.int p3)] [(.int (1 : Int32)), (.int (p2 + p3)), (.int ((ys.getD p1.toNatClampNeg 0) - (48 : Int32)))])) _
    refine own_step (fun _ => XS.isub X1.here hx rfl (hb hby d5_21) rfl) ?_
    show own_Goes p.tables e below (T1.setTop (mkF m 22 #[.val (.ref r0), .val (.int p1), .val (.int p2), .val (.int p3)] [(.int ((p2 + p3) - (1 : Int32))), (.int ((ys.getD p1.toNatClampNeg 0) - (48 : Int32)))])) _
    refine own_step (fun _ => XS.iloadN X1.here hx rfl (hb hby d5_22) rfl) ?_
    show own_Goes p.tables e below (T1.setTop (mkF m 23 #[.val (.ref r0), .val (.int p1), .val (.int p2), .val (.int p3)] [(.int p1), (.int ((p2 + p3) - (1 : Int32))), (.int ((ys.getD p1.toNatClampNeg 0) - (48 : Int32)))])) _
    refine own_step (fun _ => XS.isub X1.here hx rfl (hb hby d5_23) rfl) ?_
    show own_Goes p.tables e below (T1.setTop (mkF m 24 #[.val (.ref r0), .val (.int p1), .val (.int p2), .val (.int p3)] [(.int (((p2 + p3) - (1 : Int32)) - p1)), (.int ((ys.getD p1.toNatClampNeg 0) - (48 : Int32)))])) _
    obtain ⟨_, _, ⟨T2, L2, k2, n2⟩, -, X2, ⟨Lc2, hQ2, l2, y2, z2⟩, st2⟩ := Jvm.LawKit.callS X1 hx (y := (⟨"com/example/kolektyv/kolektyv/records/Iso2709ReaderDigitsPinLaw", "pow10", "(I)I"⟩ : MethodName)) hown (mvT hZ (hw _ (List.mem_of_getElem? (i := 20) rfl))) (mvT hZ (hw _ (List.mem_of_getElem? (i := 21) rfl))) (mvT hZ (hw _ (List.mem_of_getElem? (i := 3) rfl))) (mvT hZ (hw _ (List.mem_of_getElem? (i := 22) rfl))) (by decide) (backOf (W := 1) (rm6 l Z a0 hw [] (((p2 + p3) - (1 : Int32)) - p1) h0 n0 Z0) hZ (hw _ (List.mem_of_getElem? (i := 22) rfl)) (hw _ (List.mem_of_getElem? (i := 3) rfl)) (by decide) (by decide)) (g := (mkF m 24 #[.val (.ref r0), .val (.int p1), .val (.int p2), .val (.int p3)] [(.int (((p2 + p3) - (1 : Int32)) - p1)), (.int ((ys.getD p1.toNatClampNeg 0) - (48 : Int32)))])) rfl (by rw [hml]; rfl) (argsL := [(.int (((p2 + p3) - (1 : Int32)) - p1))]) (rest := [(.int ((ys.getD p1.toNatClampNeg 0) - (48 : Int32)))]) (lenOf pd_5_1 rfl) rfl (by show 2 * 0 + _ ≤ _; exact Nat.le_of_eq rfl) (hb hby d5_24) (fun _ _ => ⟨rfl, e1, (by decide : 0 + 0 ≤ _), (by decide : 0 + 0 ≤ _)⟩)
    dsimp only [Pt.U, Pt.locs, Pt.cells, Pt.slots] at X2 l2 y2 z2 st2 hQ2
    subst l2 y2 z2
    obtain ⟨rfl, rfl, e2⟩ := hQ2
    have X2 : Stand p l e own_room5 s m #[(.ref r0), (.int p1), (.int p2), (.int p3)] below meth c T2 [] 0 0 := own_flat X2
    refine own_step (st2) ?_
    show own_Goes p.tables e below (T2.setTop (mkF m 27 #[.val (.ref r0), .val (.int p1), .val (.int p2), .val (.int p3)] [(.int (own_f6 (((p2 + p3) - (1 : Int32)) - p1))), (.int ((ys.getD p1.toNatClampNeg 0) - (48 : Int32)))])) _
    refine own_step (fun _ => XS.imul X2.here hx rfl (hb hby d5_27) rfl) ?_
    show own_Goes p.tables e below (T2.setTop (mkF m 28 #[.val (.ref r0), .val (.int p1), .val (.int p2), .val (.int p3)] [(.int (((ys.getD p1.toNatClampNeg 0) - (48 : Int32)) * (own_f6 (((p2 + p3) - (1 : Int32)) - p1))))])) _
    have hv : (own_f5 ys p1 p2 p3) = (((ys.getD p1.toNatClampNeg 0) - (48 : Int32)) * (own_f6 (((p2 + p3) - (1 : Int32)) - p1))) := by exact (if_neg hc6)
    rw [hv]
    exact own_retI X2 hx Bd.returns (hb hby d5_28) (BodyLoose.notSynchronized Bd) ⟨rfl, rfl, e2⟩ (by decide) (by decide)
theorem d4_0 : decode prog_24_method_7_code 0 = .ok (.iconst 0, 1) := by decide +kernel
theorem d4_1 : decode prog_24_method_7_code 1 = .ok (.istore_n 3, 1) := by decide +kernel
theorem d4_2 : decode prog_24_method_7_code 2 = .ok (.iload_n 1, 1) := by decide +kernel
theorem d4_3 : decode prog_24_method_7_code 3 = .ok (.istore 4, 2) := by decide +kernel
theorem d4_5 : decode prog_24_method_7_code 5 = .ok (.iload 4, 2) := by decide +kernel
theorem d4_7 : decode prog_24_method_7_code 7 = .ok (.iload_n 1, 1) := by decide +kernel
theorem d4_8 : decode prog_24_method_7_code 8 = .ok (.iload_n 2, 1) := by decide +kernel
theorem d4_9 : decode prog_24_method_7_code 9 = .ok (.iadd, 1) := by decide +kernel
theorem d4_10 : decode prog_24_method_7_code 10 = .ok (.if_icmp .ge 40, 3) := by decide +kernel
theorem d4_13 : decode prog_24_method_7_code 13 = .ok (.aload_n 0, 1) := by decide +kernel
theorem d4_14 : decode prog_24_method_7_code 14 = .ok (.iload 4, 2) := by decide +kernel
theorem d4_16 : decode prog_24_method_7_code 16 = .ok (.baload, 1) := by decide +kernel
theorem d4_17 : decode prog_24_method_7_code 17 = .ok (.bipush 48, 2) := by decide +kernel
theorem d4_19 : decode prog_24_method_7_code 19 = .ok (.isub, 1) := by decide +kernel
theorem d4_20 : decode prog_24_method_7_code 20 = .ok (.istore 5, 2) := by decide +kernel
theorem d4_22 : decode prog_24_method_7_code 22 = .ok (.iload 5, 2) := by decide +kernel
theorem d4_24 : decode prog_24_method_7_code 24 = .ok (.ifCond .lt 10, 3) := by decide +kernel
theorem d4_27 : decode prog_24_method_7_code 27 = .ok (.iload 5, 2) := by decide +kernel
theorem d4_29 : decode prog_24_method_7_code 29 = .ok (.bipush 9, 2) := by decide +kernel
theorem d4_31 : decode prog_24_method_7_code 31 = .ok (.if_icmp .le 5, 3) := by decide +kernel
theorem d4_34 : decode prog_24_method_7_code 34 = .ok (.iconst (-1), 1) := by decide +kernel
theorem d4_35 : decode prog_24_method_7_code 35 = .ok (.ireturn, 1) := by decide +kernel
theorem d4_36 : decode prog_24_method_7_code 36 = .ok (.bipush 10, 2) := by decide +kernel
theorem d4_38 : decode prog_24_method_7_code 38 = .ok (.iload_n 3, 1) := by decide +kernel
theorem d4_39 : decode prog_24_method_7_code 39 = .ok (.imul, 1) := by decide +kernel
theorem d4_40 : decode prog_24_method_7_code 40 = .ok (.iload 5, 2) := by decide +kernel
theorem d4_42 : decode prog_24_method_7_code 42 = .ok (.iadd, 1) := by decide +kernel
theorem d4_43 : decode prog_24_method_7_code 43 = .ok (.istore_n 3, 1) := by decide +kernel
theorem d4_44 : decode prog_24_method_7_code 44 = .ok (.iinc 4 1, 3) := by decide +kernel
theorem d4_47 : decode prog_24_method_7_code 47 = .ok (.goto (-42), 3) := by decide +kernel
theorem d4_50 : decode prog_24_method_7_code 50 = .ok (.iload_n 3, 1) := by decide +kernel
theorem d4_51 : decode prog_24_method_7_code 51 = .ok (.ireturn, 1) := by decide +kernel
theorem pn_4 : plainName "com/example/kolektyv/kolektyv/records/Iso2709Reader" = true := by first | (simp [plainName, overriddenIn]; done) | decide +kernel
theorem ef_4 (m : MethodId) (r0 : Addr) (p1 : Int32) (p2 : Int32) : entryFrame m #[(.ref r0), (.int p1), (.int p2)] 6 = mkF m 0 #[.val (.ref r0), .val (.int p1), .val (.int p2), .unset, .unset, .unset] [] := by first | (simp [entryFrame, mkF, argsToLocals, Value.category]; done) | rfl
def own_f4_34 : Int32 :=
  (-1 : Int32)
def own_f4_5 (ys : List Int32) (p1 : Int32) (p2 : Int32) : Nat → Int32 → Int32 → Int32
  | 0, _, _ => 0
  | fuel + 1, v5_l3, v5_l4 =>
  if v5_l4 < (p1 + p2) then
    let z20 : Int32 := ((ys.getD v5_l4.toNatClampNeg 0) - (48 : Int32))
    if z20 < 0 then
      (own_f4_34)
    else
      if (9 : Int32) < z20 then
        (own_f4_34)
      else
        (own_f4_5 ys p1 p2 fuel (((10 : Int32) * v5_l3) + z20) (v5_l4 + (1 : Int32)))
  else
    v5_l3
def own_f4 (ys : List Int32) (p1 : Int32) (p2 : Int32) : Int32 :=
  (own_f4_5 ys p1 p2 9 (0 : Int32) p1)
abbrev own_room4 : Room := { frames := 0, cells := 0, slots := 0, locals := 0 }
set_option maxRecDepth 65536 in
set_option maxHeartbeats 40000000 in
theorem rm4 (l : Launch) (Z : State) (a0 : Array Value) (hw : ∀ d ∈ tables_1, d.before a0 Z = true) (ws : List Jvm.Cond) (r0 : Addr) (p1 : Int32) (p2 : Int32) (ys : List Int32) (k_r0 : ClassId) (h0 : Heap) (n0 : Nat) (Z0 : n0 ≤ h0.size) (V_r0 : own_A Z h0 r0 k_r0 .byte (8 : Int32) ys) (hp : own_small p1 p2) :
    MetFree l (⟨"com/example/kolektyv/kolektyv/records/Iso2709Reader", "digits", "([BII)I"⟩ : MethodName) (head1 (Jvm.Cond.code (⟨"com/example/kolektyv/kolektyv/records/Iso2709Reader", "digits", "([BII)I"⟩ : MethodName) prog_24_method_7_code 6 (some .int) :: ws) own_room4) (fun a U => a = #[(.ref r0), (.int p1), (.int p2)] ∧ Z.Warmed39 U.vm ∧ U.heap = h0) (fun _ _ _ _ _ => True) (fun _ U o U' => ∃ v L, o = .returned v ∧ own_Qp (some (.int (own_f4 ys p1 p2))) h0 v U'.heap L ∧ FrameEnd U o U' L own_room4.cells own_room4.slots) := by
  refine MetFree.of_bodySF (plainFor_of_name pn_4) hisR ?_
  intro p e s m args below meth c s₁ Bd hml0 hP hK
  obtain ⟨rfl, hZ, hh⟩ := hP
  have hx := Bd.exec
  have hby := Bd.bytes
  have hml : c.maxLocals = 6 := hml0
  have hown : s.vm.findClass "com/example/kolektyv/kolektyv/records/Iso2709Reader" = some m.cls := findClass_of_methodNamed Bd.named
  have hnm := (name_of_methodNamed Bd.named Bd.method).1
  have X0 : Stand p l e own_room4 s m #[(.ref r0), (.int p1), (.int p2)] below meth c s₁ [] 0 0 := Stand.of_body Bd
  have e0 : s₁.heap = h0 := by rw [← hh, Bd.state]; rfl
  have N0 := Fr.nil n0
  refine own_enter (ef_4 m r0 p1 p2) ?_
  show own_Goes p.tables e below (s₁.setTop (mkF m 0 #[.val (.ref r0), .val (.int p1), .val (.int p2), .unset, .unset, .unset] [])) (own_P s (own_Qp (some (.int (own_f4 ys p1 p2))) h0) own_room4.cells own_room4.slots)
  have J5 : ∀ (fuel : Nat) (T_5 : State) (X_5 : Stand p l e own_room4 s m #[(.ref r0), (.int p1), (.int p2)] below meth c T_5 [] 0 0) (e_5 : T_5.heap = h0) (v5_l3 : Int32) (v5_l4 : Int32) (s5_l5 : Slot) (h_s5_l5 : s5_l5 = .unset ∨ ∃ w, s5_l5 = .val w ∧ w.category = 1) (hH : own_H (p1 + p2) v5_l4 fuel), own_Goes p.tables e below (T_5.setTop (mkF m 5 #[.val (.ref r0), .val (.int p1), .val (.int p2), .val (.int v5_l3), .val (.int v5_l4), s5_l5] [])) (own_P s (own_Qp (some (.int (own_f4_5 ys p1 p2 fuel v5_l3 v5_l4))) h0) own_room4.cells own_room4.slots) := by
    intro fuel
    induction fuel with
    | zero => intro T_5 X_5 e_5 v5_l3 v5_l4 s5_l5 h_s5_l5 hH; exact absurd hH (own_HZ)
    | succ fuel ih =>
      intro T_5 X_5 e_5 v5_l3 v5_l4 s5_l5 h_s5_l5 hH
      refine own_step (fun _ => XS.iload X_5.here hx rfl (hb hby d4_5) rfl) ?_
      show own_Goes p.tables e below (T_5.setTop (mkF m 7 #[.val (.ref r0), .val (.int p1), .val (.int p2), .val (.int v5_l3), .val (.int v5_l4), s5_l5] [(.int v5_l4)])) _
      refine own_step (fun _ => XS.iloadN X_5.here hx rfl (hb hby d4_7) rfl) ?_
      show own_Goes p.tables e below (T_5.setTop (mkF m 8 #[.val (.ref r0), .val (.int p1), .val (.int p2), .val (.int v5_l3), .val (.int v5_l4), s5_l5] [(.int p1), (.int v5_l4)])) _
      refine own_step (fun _ => XS.iloadN X_5.here hx rfl (hb hby d4_8) rfl) ?_
      show own_Goes p.tables e below (T_5.setTop (mkF m 9 #[.val (.ref r0), .val (.int p1), .val (.int p2), .val (.int v5_l3), .val (.int v5_l4), s5_l5] [(.int p2), (.int p1), (.int v5_l4)])) _
      refine own_step (fun _ => XS.iadd X_5.here hx rfl (hb hby d4_9) rfl) ?_
      show own_Goes p.tables e below (T_5.setTop (mkF m 10 #[.val (.ref r0), .val (.int p1), .val (.int p2), .val (.int v5_l3), .val (.int v5_l4), s5_l5] [(.int (p1 + p2)), (.int v5_l4)])) _
      by_cases hc10 : v5_l4 < (p1 + p2)
      · refine own_step (fun _ => XS.icmpNo X_5.here hx rfl (hb hby d4_10) rfl (Jvm.Free.XT.ii_ge_f hc10)) ?_
        show own_Goes p.tables e below (T_5.setTop (mkF m 13 #[.val (.ref r0), .val (.int p1), .val (.int p2), .val (.int v5_l3), .val (.int v5_l4), s5_l5] [])) _
        refine own_step (fun _ => XS.aloadN X_5.here hx rfl (hb hby d4_13) rfl rfl) ?_
        show own_Goes p.tables e below (T_5.setTop (mkF m 14 #[.val (.ref r0), .val (.int p1), .val (.int p2), .val (.int v5_l3), .val (.int v5_l4), s5_l5] [(.ref r0)])) _
        refine own_step (fun _ => XS.iload X_5.here hx rfl (hb hby d4_14) rfl) ?_
        show own_Goes p.tables e below (T_5.setTop (mkF m 16 #[.val (.ref r0), .val (.int p1), .val (.int p2), .val (.int v5_l3), .val (.int v5_l4), s5_l5] [(.int v5_l4), (.ref r0)])) _
        refine own_step (own_ldB X_5 hx hZ e_5 V_r0 (j := v5_l4) (own_ix hH hc10) (g := (mkF m 16 #[.val (.ref r0), .val (.int p1), .val (.int p2), .val (.int v5_l3), .val (.int v5_l4), s5_l5] [(.int v5_l4), (.ref r0)])) rfl rfl (hb hby d4_16)) ?_
        show own_Goes p.tables e below (T_5.setTop (mkF m 17 #[.val (.ref r0), .val (.int p1), .val (.int p2), .val (.int v5_l3), .val (.int v5_l4), s5_l5] [(.int (ys.getD v5_l4.toNatClampNeg 0))])) _
        refine own_step (fun _ => XS.bipush X_5.here hx rfl (hb hby d4_17)) ?_
        show own_Goes p.tables e below (T_5.setTop (mkF m 19 #[.val (.ref r0), .val (.int p1), .val (.int p2), .val (.int v5_l3), .val (.int v5_l4), s5_l5] [(.int (48 : Int32)), (.int (ys.getD v5_l4.toNatClampNeg 0))])) _
        refine own_step (fun _ => XS.isub X_5.here hx rfl (hb hby d4_19) rfl) ?_
        show own_Goes p.tables e below (T_5.setTop (mkF m 20 #[.val (.ref r0), .val (.int p1), .val (.int p2), .val (.int v5_l3), .val (.int v5_l4), s5_l5] [(.int ((ys.getD v5_l4.toNatClampNeg 0) - (48 : Int32)))])) _
        obtain ⟨z20, hz20⟩ : ∃ z : Int32, z = ((ys.getD v5_l4.toNatClampNeg 0) - (48 : Int32)) := ⟨_, rfl⟩
        rw [← hz20]
        refine own_step (fun _ => XS.istoreS X_5.here hx rfl (hb hby d4_20) rfl rfl h_s5_l5) ?_
        show own_Goes p.tables e below (T_5.setTop (mkF m 22 #[.val (.ref r0), .val (.int p1), .val (.int p2), .val (.int v5_l3), .val (.int v5_l4), .val (.int z20)] [])) _
        refine own_step (fun _ => XS.iload X_5.here hx rfl (hb hby d4_22) rfl) ?_
        show own_Goes p.tables e below (T_5.setTop (mkF m 24 #[.val (.ref r0), .val (.int p1), .val (.int p2), .val (.int v5_l3), .val (.int v5_l4), .val (.int z20)] [(.int z20)])) _
        have J34 : ∀ (T_34 : State) (X_34 : Stand p l e own_room4 s m #[(.ref r0), (.int p1), (.int p2)] below meth c T_34 [] 0 0) (e_34 : T_34.heap = h0), own_Goes p.tables e below (T_34.setTop (mkF m 34 #[.val (.ref r0), .val (.int p1), .val (.int p2), .val (.int v5_l3), .val (.int v5_l4), .val (.int z20)] [])) (own_P s (own_Qp (some (.int (own_f4_34))) h0) own_room4.cells own_room4.slots) := by
          intro T_34 X_34 e_34
          refine own_step (fun _ => XS.iconst X_34.here hx rfl (hb hby d4_34)) ?_
          show own_Goes p.tables e below (T_34.setTop (mkF m 35 #[.val (.ref r0), .val (.int p1), .val (.int p2), .val (.int v5_l3), .val (.int v5_l4), .val (.int z20)] [(.int (-1 : Int32))])) _
          have hv : (own_f4_34) = (-1 : Int32) := by exact rfl
          rw [hv]
          exact own_retI X_34 hx Bd.returns (hb hby d4_35) (BodyLoose.notSynchronized Bd) ⟨rfl, rfl, e_34⟩ (by decide) (by decide)
        by_cases hc24 : z20 < 0
        · refine own_step (fun _ => XS.ifYes X_5.here hx rfl (pc0 := 24) (pc' := 34) rfl (hb hby d4_24) rfl (Jvm.Free.XT.i0_lt_t hc24) (by decide) (by decide)) ?_
          show own_Goes p.tables e below (T_5.setTop (mkF m 34 #[.val (.ref r0), .val (.int p1), .val (.int p2), .val (.int v5_l3), .val (.int v5_l4), .val (.int z20)] [])) _
          have hv : (own_f4_5 ys p1 p2 (fuel + 1) v5_l3 v5_l4) = (own_f4_34) := by subst hz20; exact ((if_pos hc10)).trans (if_pos hc24)
          rw [hv]
          exact J34 T_5 X_5 e_5
        · refine own_step (fun _ => XS.ifNo X_5.here hx rfl (hb hby d4_24) rfl (Jvm.Free.XT.i0_lt_f hc24)) ?_
          show own_Goes p.tables e below (T_5.setTop (mkF m 27 #[.val (.ref r0), .val (.int p1), .val (.int p2), .val (.int v5_l3), .val (.int v5_l4), .val (.int z20)] [])) _
          refine own_step (fun _ => XS.iload X_5.here hx rfl (hb hby d4_27) rfl) ?_
          show own_Goes p.tables e below (T_5.setTop (mkF m 29 #[.val (.ref r0), .val (.int p1), .val (.int p2), .val (.int v5_l3), .val (.int v5_l4), .val (.int z20)] [(.int z20)])) _
          refine own_step (fun _ => XS.bipush X_5.here hx rfl (hb hby d4_29)) ?_
          show own_Goes p.tables e below (T_5.setTop (mkF m 31 #[.val (.ref r0), .val (.int p1), .val (.int p2), .val (.int v5_l3), .val (.int v5_l4), .val (.int z20)] [(.int (9 : Int32)), (.int z20)])) _
          by_cases hc31 : (9 : Int32) < z20
          · refine own_step (fun _ => XS.icmpNo X_5.here hx rfl (hb hby d4_31) rfl (Jvm.Free.XT.ii_le_f hc31)) ?_
            show own_Goes p.tables e below (T_5.setTop (mkF m 34 #[.val (.ref r0), .val (.int p1), .val (.int p2), .val (.int v5_l3), .val (.int v5_l4), .val (.int z20)] [])) _
            have hv : (own_f4_5 ys p1 p2 (fuel + 1) v5_l3 v5_l4) = (own_f4_34) := by subst hz20; exact (((if_pos hc10)).trans (if_neg hc24)).trans (if_pos hc31)
            rw [hv]
            exact J34 T_5 X_5 e_5
          · refine own_step (fun _ => XS.icmpYes X_5.here hx rfl (pc0 := 31) (pc' := 36) rfl (hb hby d4_31) rfl (Jvm.Free.XT.ii_le_t hc31) (by decide) (by decide)) ?_
            show own_Goes p.tables e below (T_5.setTop (mkF m 36 #[.val (.ref r0), .val (.int p1), .val (.int p2), .val (.int v5_l3), .val (.int v5_l4), .val (.int z20)] [])) _
            refine own_step (fun _ => XS.bipush X_5.here hx rfl (hb hby d4_36)) ?_
            show own_Goes p.tables e below (T_5.setTop (mkF m 38 #[.val (.ref r0), .val (.int p1), .val (.int p2), .val (.int v5_l3), .val (.int v5_l4), .val (.int z20)] [(.int (10 : Int32))])) _
            refine own_step (fun _ => XS.iloadN X_5.here hx rfl (hb hby d4_38) rfl) ?_
            show own_Goes p.tables e below (T_5.setTop (mkF m 39 #[.val (.ref r0), .val (.int p1), .val (.int p2), .val (.int v5_l3), .val (.int v5_l4), .val (.int z20)] [(.int v5_l3), (.int (10 : Int32))])) _
            refine own_step (fun _ => XS.imul X_5.here hx rfl (hb hby d4_39) rfl) ?_
            show own_Goes p.tables e below (T_5.setTop (mkF m 40 #[.val (.ref r0), .val (.int p1), .val (.int p2), .val (.int v5_l3), .val (.int v5_l4), .val (.int z20)] [(.int ((10 : Int32) * v5_l3))])) _
            refine own_step (fun _ => XS.iload X_5.here hx rfl (hb hby d4_40) rfl) ?_
            show own_Goes p.tables e below (T_5.setTop (mkF m 42 #[.val (.ref r0), .val (.int p1), .val (.int p2), .val (.int v5_l3), .val (.int v5_l4), .val (.int z20)] [(.int z20), (.int ((10 : Int32) * v5_l3))])) _
            refine own_step (fun _ => XS.iadd X_5.here hx rfl (hb hby d4_42) rfl) ?_
            show own_Goes p.tables e below (T_5.setTop (mkF m 43 #[.val (.ref r0), .val (.int p1), .val (.int p2), .val (.int v5_l3), .val (.int v5_l4), .val (.int z20)] [(.int (((10 : Int32) * v5_l3) + z20))])) _
            refine own_step (fun _ => XS.istoreN X_5.here hx rfl (hb hby d4_43) rfl (l' := #[.val (.ref r0), .val (.int p1), .val (.int p2), .val (.int (((10 : Int32) * v5_l3) + z20)), .val (.int v5_l4), .val (.int z20)]) rfl) ?_
            show own_Goes p.tables e below (T_5.setTop (mkF m 44 #[.val (.ref r0), .val (.int p1), .val (.int p2), .val (.int (((10 : Int32) * v5_l3) + z20)), .val (.int v5_l4), .val (.int z20)] [])) _
            refine own_step (fun _ => XS.iinc X_5.here hx rfl (hb hby d4_44) rfl (l' := #[.val (.ref r0), .val (.int p1), .val (.int p2), .val (.int (((10 : Int32) * v5_l3) + z20)), .val (.int (v5_l4 + (1 : Int32))), .val (.int z20)]) rfl) ?_
            show own_Goes p.tables e below (T_5.setTop (mkF m 47 #[.val (.ref r0), .val (.int p1), .val (.int p2), .val (.int (((10 : Int32) * v5_l3) + z20)), .val (.int (v5_l4 + (1 : Int32))), .val (.int z20)] [])) _
            refine own_step (fun _ => XS.goto X_5.here hx rfl (pc0 := 47) (pc' := 5) rfl (hb hby d4_47) (by decide) (by decide)) ?_
            show own_Goes p.tables e below (T_5.setTop (mkF m 5 #[.val (.ref r0), .val (.int p1), .val (.int p2), .val (.int (((10 : Int32) * v5_l3) + z20)), .val (.int (v5_l4 + (1 : Int32))), .val (.int z20)] [])) _
            have hv : (own_f4_5 ys p1 p2 (fuel + 1) v5_l3 v5_l4) = (own_f4_5 ys p1 p2 fuel (((10 : Int32) * v5_l3) + z20) (v5_l4 + (1 : Int32))) := by subst hz20; exact (((if_pos hc10)).trans (if_neg hc24)).trans (if_neg hc31)
            rw [hv]
            exact ih T_5 X_5 e_5 (((10 : Int32) * v5_l3) + z20) (v5_l4 + (1 : Int32)) (.val (.int z20)) (Or.inr ⟨_, rfl, rfl⟩) (own_HS hc10 hH)
      · refine own_step (fun _ => XS.icmpYes X_5.here hx rfl (pc0 := 10) (pc' := 50) rfl (hb hby d4_10) rfl (Jvm.Free.XT.ii_ge_t hc10) (by decide) (by decide)) ?_
        show own_Goes p.tables e below (T_5.setTop (mkF m 50 #[.val (.ref r0), .val (.int p1), .val (.int p2), .val (.int v5_l3), .val (.int v5_l4), s5_l5] [])) _
        refine own_step (fun _ => XS.iloadN X_5.here hx rfl (hb hby d4_50) rfl) ?_
        show own_Goes p.tables e below (T_5.setTop (mkF m 51 #[.val (.ref r0), .val (.int p1), .val (.int p2), .val (.int v5_l3), .val (.int v5_l4), s5_l5] [(.int v5_l3)])) _
        have hv : (own_f4_5 ys p1 p2 (fuel + 1) v5_l3 v5_l4) = v5_l3 := by exact (if_neg hc10)
        rw [hv]
        exact own_retI X_5 hx Bd.returns (hb hby d4_51) (BodyLoose.notSynchronized Bd) ⟨rfl, rfl, e_5⟩ (by decide) (by decide)
  refine own_step (fun _ => XS.iconst X0.here hx rfl (hb hby d4_0)) ?_
  show own_Goes p.tables e below (s₁.setTop (mkF m 1 #[.val (.ref r0), .val (.int p1), .val (.int p2), .unset, .unset, .unset] [(.int (0 : Int32))])) _
  refine own_step (fun _ => XS.istoreN X0.here hx rfl (hb hby d4_1) rfl (l' := #[.val (.ref r0), .val (.int p1), .val (.int p2), .val (.int (0 : Int32)), .unset, .unset]) rfl) ?_
  show own_Goes p.tables e below (s₁.setTop (mkF m 2 #[.val (.ref r0), .val (.int p1), .val (.int p2), .val (.int (0 : Int32)), .unset, .unset] [])) _
  refine own_step (fun _ => XS.iloadN X0.here hx rfl (hb hby d4_2) rfl) ?_
  show own_Goes p.tables e below (s₁.setTop (mkF m 3 #[.val (.ref r0), .val (.int p1), .val (.int p2), .val (.int (0 : Int32)), .unset, .unset] [(.int p1)])) _
  refine own_step (fun _ => XS.istore X0.here hx rfl (hb hby d4_3) rfl (l' := #[.val (.ref r0), .val (.int p1), .val (.int p2), .val (.int (0 : Int32)), .val (.int p1), .unset]) rfl) ?_
  show own_Goes p.tables e below (s₁.setTop (mkF m 5 #[.val (.ref r0), .val (.int p1), .val (.int p2), .val (.int (0 : Int32)), .val (.int p1), .unset] [])) _
  have hv : (own_f4 ys p1 p2) = (own_f4_5 ys p1 p2 9 (0 : Int32) p1) := by exact rfl
  rw [hv]
  exact J5 9 s₁ X0 e0 (0 : Int32) p1 (.unset) (Or.inl rfl) (own_H0 hp)
theorem pn_0 : plainName "com/example/kolektyv/kolektyv/records/Iso2709ReaderDigitsPinLaw" = true := by first | (simp [plainName, overriddenIn]; done) | decide +kernel
theorem pd_0_0 : parseMethodDescriptor "(JII)B" = some ⟨[.long, .int, .int], some .byte⟩ := by decide +kernel
theorem pd_0_1 : parseMethodDescriptor "([BIII)Z" = some ⟨[(.array .byte), .int, .int, .int], some .boolean⟩ := by decide +kernel
theorem pd_0_2 : parseMethodDescriptor "([BII)I" = some ⟨[(.array .byte), .int, .int], some .int⟩ := by decide +kernel
theorem pd_0_3 : parseMethodDescriptor "([BIII)I" = some ⟨[(.array .byte), .int, .int, .int], some .int⟩ := by decide +kernel
theorem ef_0 (m : MethodId) (q0 : Int64) (p1 : Int32) (p2 : Int32) (p3 : Int32) : entryFrame m #[(.long q0), (.int p1), (.int p2), (.int p3)] maxLocals = mkF m 0 #[.val (.long q0), .second, .val (.int p1), .val (.int p2), .val (.int p3), .unset, .unset, .unset, .unset, .unset] [] := by first | (simp [entryFrame, mkF, argsToLocals, Value.category, maxLocals]; done) | rfl
def own_f0_334 (ys : List Int32) (z105 : Int32) (z117 : Int32) (v334_l9 : Int32) : Int32 :=
  if (own_f4 ys z117 z105) = v334_l9 then
    (1 : Int32)
  else
    (0 : Int32)
def own_f0_230 (ys : List Int32) (z105 : Int32) (z117 : Int32) (v230_t0 : Int32) : Int32 :=
  if v230_t0 = 0 then
    (own_f0_334 ys z105 z117 (-1 : Int32))
  else
    let z332 : Int32 := ((((((((own_f5 ys (0 : Int32) z117 z105) + (own_f5 ys (1 : Int32) z117 z105)) + (own_f5 ys (2 : Int32) z117 z105)) + (own_f5 ys (3 : Int32) z117 z105)) + (own_f5 ys (4 : Int32) z117 z105)) + (own_f5 ys (5 : Int32) z117 z105)) + (own_f5 ys (6 : Int32) z117 z105)) + (own_f5 ys (7 : Int32) z117 z105))
    (own_f0_334 ys z105 z117 z332)
def own_f0_229 (ys : List Int32) (z105 : Int32) (z117 : Int32) : Int32 :=
  (own_f0_230 ys z105 z117 (0 : Int32))
def own_f0 (q0 : Int64) (p1 : Int32) (p2 : Int32) (p3 : Int32) : Int32 :=
  let ys : List Int32 := [(nar .byte (own_f1 q0 p3 (0 : Int32))), (nar .byte (own_f1 q0 p3 (1 : Int32))), (nar .byte (own_f1 q0 p3 (2 : Int32))), (nar .byte (own_f1 q0 p3 (3 : Int32))), (nar .byte (own_f1 q0 p3 (4 : Int32))), (nar .byte (own_f1 q0 p3 (5 : Int32))), (nar .byte (own_f1 q0 p3 (6 : Int32))), (nar .byte (own_f1 q0 p3 (7 : Int32)))]
  let z105 : Int32 := ((p1 &&& (2147483647 : Int32)) - (p1 &&& (2147483647 : Int32)) / (9 : Int32) * (9 : Int32))
  let z117 : Int32 := ((p2 &&& (2147483647 : Int32)) - (p2 &&& (2147483647 : Int32)) / ((9 : Int32) - z105) * ((9 : Int32) - z105))
  if (own_f2 ys (0 : Int32) z117 z105) = 0 then
    (own_f0_229 ys z105 z117)
  else
    if (own_f2 ys (1 : Int32) z117 z105) = 0 then
      (own_f0_229 ys z105 z117)
    else
      if (own_f2 ys (2 : Int32) z117 z105) = 0 then
        (own_f0_229 ys z105 z117)
      else
        if (own_f2 ys (3 : Int32) z117 z105) = 0 then
          (own_f0_229 ys z105 z117)
        else
          if (own_f2 ys (4 : Int32) z117 z105) = 0 then
            (own_f0_229 ys z105 z117)
          else
            if (own_f2 ys (5 : Int32) z117 z105) = 0 then
              (own_f0_229 ys z105 z117)
            else
              if (own_f2 ys (6 : Int32) z117 z105) = 0 then
                (own_f0_229 ys z105 z117)
              else
                if (own_f2 ys (7 : Int32) z117 z105) = 0 then
                  (own_f0_229 ys z105 z117)
                else
                  (own_f0_230 ys z105 z117 (1 : Int32))
set_option maxRecDepth 65536 in
set_option maxHeartbeats 40000000 in
theorem rm0 (l : Launch) (Z : State) (a0 : Array Value) (hw : ∀ d ∈ tables_1, d.before a0 Z = true) (ws : List Jvm.Cond) (q0 : Int64) (p1 : Int32) (p2 : Int32) (p3 : Int32) (h0 : Heap) (n0 : Nat) (Z0 : n0 ≤ h0.size) :
    MetFree l x (head1 (Jvm.Cond.code x code maxLocals ret :: ws) room_1) (fun a U => a = #[(.long q0), (.int p1), (.int p2), (.int p3)] ∧ Z.Warmed39 U.vm ∧ U.heap = h0) (fun _ _ _ _ _ => True) (fun _ U o U' => ∃ v L, o = .returned v ∧ own_Ql (some (.int (own_f0 q0 p1 p2 p3))) n0 v U'.heap L ∧ FrameEnd U o U' L 1 8) := by
  refine MetFree.of_bodySF (plainFor_of_name pn_0) hisR ?_
  intro p e s m args below meth c s₁ Bd hml0 hP hK
  obtain ⟨rfl, hZ, hh⟩ := hP
  have hx := Bd.exec
  have hby := Bd.bytes
  have hml : c.maxLocals = 10 := hml0
  have hown : s.vm.findClass "com/example/kolektyv/kolektyv/records/Iso2709ReaderDigitsPinLaw" = some m.cls := findClass_of_methodNamed Bd.named
  have hnm := (name_of_methodNamed Bd.named Bd.method).1
  have X0 : Stand p l e room_1 s m #[(.long q0), (.int p1), (.int p2), (.int p3)] below meth c s₁ [] 0 0 := Stand.of_body Bd
  have e0 : s₁.heap = h0 := by rw [← hh, Bd.state]; rfl
  have N0 := Fr.nil n0
  refine own_enter (ef_0 m q0 p1 p2 p3) ?_
  show own_Goes p.tables e below (s₁.setTop (mkF m 0 #[.val (.long q0), .second, .val (.int p1), .val (.int p2), .val (.int p3), .unset, .unset, .unset, .unset, .unset] [])) (own_P s (own_Ql (some (.int (own_f0 q0 p1 p2 p3))) n0) 1 8)
  refine own_step (fun _ => XS.bipush X0.here hx rfl (hb hby at_0)) ?_
  show own_Goes p.tables e below (s₁.setTop (mkF m 2 #[.val (.long q0), .second, .val (.int p1), .val (.int p2), .val (.int p3), .unset, .unset, .unset, .unset, .unset] [(.int (8 : Int32))])) _
  obtain ⟨T1, h1, b2, k1, X1, e1, E1, g1, V1, st1⟩ := own_newA X0 hx hZ (hw _ (List.mem_of_getElem? (i := 0) rfl)) e0 (g := (mkF m 2 #[.val (.long q0), .second, .val (.int p1), .val (.int p2), .val (.int p3), .unset, .unset, .unset, .unset, .unset] [(.int (8 : Int32))])) rfl (hb hby at_2) rfl 8 (by decide) (by decide) (by decide) (by decide) (by decide) rfl
  have g_b2 : n0 ≤ b2 := Nat.le_trans Z0 (Nat.le_of_eq g1.symm)
  have sz_b2 : h0.size ≤ b2 := Nat.le_trans (Keep.refl h0 []).1 (Nat.le_of_eq g1.symm)
  have K1 : Keep h0 h1 [] := (Keep.refl h0 []).ext E1
  have Z1 : n0 ≤ h1.size := Nat.le_trans Z0 E1.1
  have V1 : own_A Z h1 b2 k1 .byte (8 : Int32) [(0 : Int32), (0 : Int32), (0 : Int32), (0 : Int32), (0 : Int32), (0 : Int32), (0 : Int32), (0 : Int32)] := V1
  refine own_step (st1) ?_
  show own_Goes p.tables e below (T1.setTop (mkF m 4 #[.val (.long q0), .second, .val (.int p1), .val (.int p2), .val (.int p3), .unset, .unset, .unset, .unset, .unset] [(.ref b2)])) _
  refine own_step (fun _ => XS.astore X1.here hx rfl (hb hby at_4) rfl rfl (l' := #[.val (.long q0), .second, .val (.int p1), .val (.int p2), .val (.int p3), .val (.ref b2), .unset, .unset, .unset, .unset]) rfl) ?_
  show own_Goes p.tables e below (T1.setTop (mkF m 6 #[.val (.long q0), .second, .val (.int p1), .val (.int p2), .val (.int p3), .val (.ref b2), .unset, .unset, .unset, .unset] [])) _
  refine own_step (fun _ => XS.aload X1.here hx rfl (hb hby at_6) rfl rfl) ?_
  show own_Goes p.tables e below (T1.setTop (mkF m 8 #[.val (.long q0), .second, .val (.int p1), .val (.int p2), .val (.int p3), .val (.ref b2), .unset, .unset, .unset, .unset] [(.ref b2)])) _
  refine own_step (fun _ => XS.iconst X1.here hx rfl (hb hby at_8)) ?_
  show own_Goes p.tables e below (T1.setTop (mkF m 9 #[.val (.long q0), .second, .val (.int p1), .val (.int p2), .val (.int p3), .val (.ref b2), .unset, .unset, .unset, .unset] [(.int (0 : Int32)), (.ref b2)])) _
  refine own_step (fun _ => XS.lloadN X1.here hx rfl (hb hby at_9) rfl) ?_
  show own_Goes p.tables e below (T1.setTop (mkF m 10 #[.val (.long q0), .second, .val (.int p1), .val (.int p2), .val (.int p3), .val (.ref b2), .unset, .unset, .unset, .unset] [(.long q0), (.int (0 : Int32)), (.ref b2)])) _
  refine own_step (fun _ => XS.iload X1.here hx rfl (hb hby at_10) rfl) ?_
  show own_Goes p.tables e below (T1.setTop (mkF m 12 #[.val (.long q0), .second, .val (.int p1), .val (.int p2), .val (.int p3), .val (.ref b2), .unset, .unset, .unset, .unset] [(.int p3), (.long q0), (.int (0 : Int32)), (.ref b2)])) _
  refine own_step (fun _ => XS.iconst X1.here hx rfl (hb hby at_12)) ?_
  show own_Goes p.tables e below (T1.setTop (mkF m 13 #[.val (.long q0), .second, .val (.int p1), .val (.int p2), .val (.int p3), .val (.ref b2), .unset, .unset, .unset, .unset] [(.int (0 : Int32)), (.int p3), (.long q0), (.int (0 : Int32)), (.ref b2)])) _
  obtain ⟨_, _, ⟨T2, L2, k2, n2⟩, -, X2, ⟨Lc2, hQ2, l2, y2, z2⟩, st2⟩ := Jvm.LawKit.callS X1 hx (y := (⟨"com/example/kolektyv/kolektyv/records/Iso2709ReaderDigitsPinLaw", "at", "(JII)B"⟩ : MethodName)) hown (mvT hZ (hw _ (List.mem_of_getElem? (i := 1) rfl))) (mvT hZ (hw _ (List.mem_of_getElem? (i := 2) rfl))) (mvT hZ (hw _ (List.mem_of_getElem? (i := 3) rfl))) (mvT hZ (hw _ (List.mem_of_getElem? (i := 4) rfl))) (by decide) (backOf (W := 2) (rm1 l Z a0 hw [] q0 p3 (0 : Int32) h1 n0 Z1) hZ (hw _ (List.mem_of_getElem? (i := 4) rfl)) (hw _ (List.mem_of_getElem? (i := 3) rfl)) (by decide) (by decide)) (g := (mkF m 13 #[.val (.long q0), .second, .val (.int p1), .val (.int p2), .val (.int p3), .val (.ref b2), .unset, .unset, .unset, .unset] [(.int (0 : Int32)), (.int p3), (.long q0), (.int (0 : Int32)), (.ref b2)])) rfl (by rw [hml]; rfl) (argsL := [(.long q0), (.int p3), (.int (0 : Int32))]) (rest := [(.int (0 : Int32)), (.ref b2)]) (lenOf pd_0_0 rfl) rfl (by show 2 * 0 + _ ≤ _; exact Nat.le_of_eq rfl) (hb hby at_13) (fun _ _ => ⟨rfl, e1, (by decide : (0 + 1) + 0 ≤ _), (by decide : (0 + 8) + 0 ≤ _)⟩)
  dsimp only [Pt.U, Pt.locs, Pt.cells, Pt.slots] at X2 l2 y2 z2 st2 hQ2
  subst l2 y2 z2
  obtain ⟨rfl, rfl, e2⟩ := hQ2
  have X2 : Stand p l e room_1 s m #[(.long q0), (.int p1), (.int p2), (.int p3)] below meth c T2 [] (0 + 1) (0 + 8) := own_flat X2
  refine own_step (st2) ?_
  show own_Goes p.tables e below (T2.setTop (mkF m 16 #[.val (.long q0), .second, .val (.int p1), .val (.int p2), .val (.int p3), .val (.ref b2), .unset, .unset, .unset, .unset] [(.int (own_f1 q0 p3 (0 : Int32))), (.int (0 : Int32)), (.ref b2)])) _
  obtain ⟨T3, h3, L3, X3, e3, N3, V3, W3, st3⟩ := own_stB X2 hx hZ e2 V1 (j := (0 : Int32)) 0 ⟨by decide, by decide⟩ (by decide) (show 0 < 8 by decide) (g := (mkF m 16 #[.val (.long q0), .second, .val (.int p1), .val (.int p2), .val (.int p3), .val (.ref b2), .unset, .unset, .unset, .unset] [(.int (own_f1 q0 p3 (0 : Int32))), (.int (0 : Int32)), (.ref b2)])) rfl rfl (hb hby at_16)
  have N3 := N3 n0 N0 g_b2
  have K3 : Keep h0 h3 [] := K1.wr W3 (Or.inr sz_b2)
  have Z3 : n0 ≤ h3.size := Nat.le_trans Z0 K3.1
  have V3 : own_A Z h3 b2 k1 .byte (8 : Int32) [(nar .byte (own_f1 q0 p3 (0 : Int32))), (0 : Int32), (0 : Int32), (0 : Int32), (0 : Int32), (0 : Int32), (0 : Int32), (0 : Int32)] := V3
  refine own_step (st3) ?_
  show own_Goes p.tables e below (T3.setTop (mkF m 17 #[.val (.long q0), .second, .val (.int p1), .val (.int p2), .val (.int p3), .val (.ref b2), .unset, .unset, .unset, .unset] [])) _
  refine own_step (fun _ => XS.aload X3.here hx rfl (hb hby at_17) rfl rfl) ?_
  show own_Goes p.tables e below (T3.setTop (mkF m 19 #[.val (.long q0), .second, .val (.int p1), .val (.int p2), .val (.int p3), .val (.ref b2), .unset, .unset, .unset, .unset] [(.ref b2)])) _
  refine own_step (fun _ => XS.iconst X3.here hx rfl (hb hby at_19)) ?_
  show own_Goes p.tables e below (T3.setTop (mkF m 20 #[.val (.long q0), .second, .val (.int p1), .val (.int p2), .val (.int p3), .val (.ref b2), .unset, .unset, .unset, .unset] [(.int (1 : Int32)), (.ref b2)])) _
  refine own_step (fun _ => XS.lloadN X3.here hx rfl (hb hby at_20) rfl) ?_
  show own_Goes p.tables e below (T3.setTop (mkF m 21 #[.val (.long q0), .second, .val (.int p1), .val (.int p2), .val (.int p3), .val (.ref b2), .unset, .unset, .unset, .unset] [(.long q0), (.int (1 : Int32)), (.ref b2)])) _
  refine own_step (fun _ => XS.iload X3.here hx rfl (hb hby at_21) rfl) ?_
  show own_Goes p.tables e below (T3.setTop (mkF m 23 #[.val (.long q0), .second, .val (.int p1), .val (.int p2), .val (.int p3), .val (.ref b2), .unset, .unset, .unset, .unset] [(.int p3), (.long q0), (.int (1 : Int32)), (.ref b2)])) _
  refine own_step (fun _ => XS.iconst X3.here hx rfl (hb hby at_23)) ?_
  show own_Goes p.tables e below (T3.setTop (mkF m 24 #[.val (.long q0), .second, .val (.int p1), .val (.int p2), .val (.int p3), .val (.ref b2), .unset, .unset, .unset, .unset] [(.int (1 : Int32)), (.int p3), (.long q0), (.int (1 : Int32)), (.ref b2)])) _
  obtain ⟨_, _, ⟨T4, L4, k4, n4⟩, -, X4, ⟨Lc4, hQ4, l4, y4, z4⟩, st4⟩ := Jvm.LawKit.callS X3 hx (y := (⟨"com/example/kolektyv/kolektyv/records/Iso2709ReaderDigitsPinLaw", "at", "(JII)B"⟩ : MethodName)) hown (mvT hZ (hw _ (List.mem_of_getElem? (i := 1) rfl))) (mvT hZ (hw _ (List.mem_of_getElem? (i := 2) rfl))) (mvT hZ (hw _ (List.mem_of_getElem? (i := 3) rfl))) (mvT hZ (hw _ (List.mem_of_getElem? (i := 4) rfl))) (by decide) (backOf (W := 2) (rm1 l Z a0 hw [] q0 p3 (1 : Int32) h3 n0 Z3) hZ (hw _ (List.mem_of_getElem? (i := 4) rfl)) (hw _ (List.mem_of_getElem? (i := 3) rfl)) (by decide) (by decide)) (g := (mkF m 24 #[.val (.long q0), .second, .val (.int p1), .val (.int p2), .val (.int p3), .val (.ref b2), .unset, .unset, .unset, .unset] [(.int (1 : Int32)), (.int p3), (.long q0), (.int (1 : Int32)), (.ref b2)])) rfl (by rw [hml]; rfl) (argsL := [(.long q0), (.int p3), (.int (1 : Int32))]) (rest := [(.int (1 : Int32)), (.ref b2)]) (lenOf pd_0_0 rfl) rfl (by show 2 * 0 + _ ≤ _; exact Nat.le_of_eq rfl) (hb hby at_24) (fun _ _ => ⟨rfl, e3, (by decide : (0 + 1) + 0 ≤ _), (by decide : (0 + 8) + 0 ≤ _)⟩)
  dsimp only [Pt.U, Pt.locs, Pt.cells, Pt.slots] at X4 l4 y4 z4 st4 hQ4
  subst l4 y4 z4
  obtain ⟨rfl, rfl, e4⟩ := hQ4
  have X4 : Stand p l e room_1 s m #[(.long q0), (.int p1), (.int p2), (.int p3)] below meth c T4 L3 (0 + 1) (0 + 8) := own_flat X4
  refine own_step (st4) ?_
  show own_Goes p.tables e below (T4.setTop (mkF m 27 #[.val (.long q0), .second, .val (.int p1), .val (.int p2), .val (.int p3), .val (.ref b2), .unset, .unset, .unset, .unset] [(.int (own_f1 q0 p3 (1 : Int32))), (.int (1 : Int32)), (.ref b2)])) _
  obtain ⟨T5, h5, L5, X5, e5, N5, V5, W5, st5⟩ := own_stB X4 hx hZ e4 V3 (j := (1 : Int32)) 1 ⟨by decide, by decide⟩ (by decide) (show 1 < 8 by decide) (g := (mkF m 27 #[.val (.long q0), .second, .val (.int p1), .val (.int p2), .val (.int p3), .val (.ref b2), .unset, .unset, .unset, .unset] [(.int (own_f1 q0 p3 (1 : Int32))), (.int (1 : Int32)), (.ref b2)])) rfl rfl (hb hby at_27)
  have N5 := N5 n0 N3 g_b2
  have K5 : Keep h0 h5 [] := K3.wr W5 (Or.inr sz_b2)
  have Z5 : n0 ≤ h5.size := Nat.le_trans Z0 K5.1
  have V5 : own_A Z h5 b2 k1 .byte (8 : Int32) [(nar .byte (own_f1 q0 p3 (0 : Int32))), (nar .byte (own_f1 q0 p3 (1 : Int32))), (0 : Int32), (0 : Int32), (0 : Int32), (0 : Int32), (0 : Int32), (0 : Int32)] := V5
  refine own_step (st5) ?_
  show own_Goes p.tables e below (T5.setTop (mkF m 28 #[.val (.long q0), .second, .val (.int p1), .val (.int p2), .val (.int p3), .val (.ref b2), .unset, .unset, .unset, .unset] [])) _
  refine own_step (fun _ => XS.aload X5.here hx rfl (hb hby at_28) rfl rfl) ?_
  show own_Goes p.tables e below (T5.setTop (mkF m 30 #[.val (.long q0), .second, .val (.int p1), .val (.int p2), .val (.int p3), .val (.ref b2), .unset, .unset, .unset, .unset] [(.ref b2)])) _
  refine own_step (fun _ => XS.iconst X5.here hx rfl (hb hby at_30)) ?_
  show own_Goes p.tables e below (T5.setTop (mkF m 31 #[.val (.long q0), .second, .val (.int p1), .val (.int p2), .val (.int p3), .val (.ref b2), .unset, .unset, .unset, .unset] [(.int (2 : Int32)), (.ref b2)])) _
  refine own_step (fun _ => XS.lloadN X5.here hx rfl (hb hby at_31) rfl) ?_
  show own_Goes p.tables e below (T5.setTop (mkF m 32 #[.val (.long q0), .second, .val (.int p1), .val (.int p2), .val (.int p3), .val (.ref b2), .unset, .unset, .unset, .unset] [(.long q0), (.int (2 : Int32)), (.ref b2)])) _
  refine own_step (fun _ => XS.iload X5.here hx rfl (hb hby at_32) rfl) ?_
  show own_Goes p.tables e below (T5.setTop (mkF m 34 #[.val (.long q0), .second, .val (.int p1), .val (.int p2), .val (.int p3), .val (.ref b2), .unset, .unset, .unset, .unset] [(.int p3), (.long q0), (.int (2 : Int32)), (.ref b2)])) _
  refine own_step (fun _ => XS.iconst X5.here hx rfl (hb hby at_34)) ?_
  show own_Goes p.tables e below (T5.setTop (mkF m 35 #[.val (.long q0), .second, .val (.int p1), .val (.int p2), .val (.int p3), .val (.ref b2), .unset, .unset, .unset, .unset] [(.int (2 : Int32)), (.int p3), (.long q0), (.int (2 : Int32)), (.ref b2)])) _
  obtain ⟨_, _, ⟨T6, L6, k6, n6⟩, -, X6, ⟨Lc6, hQ6, l6, y6, z6⟩, st6⟩ := Jvm.LawKit.callS X5 hx (y := (⟨"com/example/kolektyv/kolektyv/records/Iso2709ReaderDigitsPinLaw", "at", "(JII)B"⟩ : MethodName)) hown (mvT hZ (hw _ (List.mem_of_getElem? (i := 1) rfl))) (mvT hZ (hw _ (List.mem_of_getElem? (i := 2) rfl))) (mvT hZ (hw _ (List.mem_of_getElem? (i := 3) rfl))) (mvT hZ (hw _ (List.mem_of_getElem? (i := 4) rfl))) (by decide) (backOf (W := 2) (rm1 l Z a0 hw [] q0 p3 (2 : Int32) h5 n0 Z5) hZ (hw _ (List.mem_of_getElem? (i := 4) rfl)) (hw _ (List.mem_of_getElem? (i := 3) rfl)) (by decide) (by decide)) (g := (mkF m 35 #[.val (.long q0), .second, .val (.int p1), .val (.int p2), .val (.int p3), .val (.ref b2), .unset, .unset, .unset, .unset] [(.int (2 : Int32)), (.int p3), (.long q0), (.int (2 : Int32)), (.ref b2)])) rfl (by rw [hml]; rfl) (argsL := [(.long q0), (.int p3), (.int (2 : Int32))]) (rest := [(.int (2 : Int32)), (.ref b2)]) (lenOf pd_0_0 rfl) rfl (by show 2 * 0 + _ ≤ _; exact Nat.le_of_eq rfl) (hb hby at_35) (fun _ _ => ⟨rfl, e5, (by decide : (0 + 1) + 0 ≤ _), (by decide : (0 + 8) + 0 ≤ _)⟩)
  dsimp only [Pt.U, Pt.locs, Pt.cells, Pt.slots] at X6 l6 y6 z6 st6 hQ6
  subst l6 y6 z6
  obtain ⟨rfl, rfl, e6⟩ := hQ6
  have X6 : Stand p l e room_1 s m #[(.long q0), (.int p1), (.int p2), (.int p3)] below meth c T6 L5 (0 + 1) (0 + 8) := own_flat X6
  refine own_step (st6) ?_
  show own_Goes p.tables e below (T6.setTop (mkF m 38 #[.val (.long q0), .second, .val (.int p1), .val (.int p2), .val (.int p3), .val (.ref b2), .unset, .unset, .unset, .unset] [(.int (own_f1 q0 p3 (2 : Int32))), (.int (2 : Int32)), (.ref b2)])) _
  obtain ⟨T7, h7, L7, X7, e7, N7, V7, W7, st7⟩ := own_stB X6 hx hZ e6 V5 (j := (2 : Int32)) 2 ⟨by decide, by decide⟩ (by decide) (show 2 < 8 by decide) (g := (mkF m 38 #[.val (.long q0), .second, .val (.int p1), .val (.int p2), .val (.int p3), .val (.ref b2), .unset, .unset, .unset, .unset] [(.int (own_f1 q0 p3 (2 : Int32))), (.int (2 : Int32)), (.ref b2)])) rfl rfl (hb hby at_38)
  have N7 := N7 n0 N5 g_b2
  have K7 : Keep h0 h7 [] := K5.wr W7 (Or.inr sz_b2)
  have Z7 : n0 ≤ h7.size := Nat.le_trans Z0 K7.1
  have V7 : own_A Z h7 b2 k1 .byte (8 : Int32) [(nar .byte (own_f1 q0 p3 (0 : Int32))), (nar .byte (own_f1 q0 p3 (1 : Int32))), (nar .byte (own_f1 q0 p3 (2 : Int32))), (0 : Int32), (0 : Int32), (0 : Int32), (0 : Int32), (0 : Int32)] := V7
  refine own_step (st7) ?_
  show own_Goes p.tables e below (T7.setTop (mkF m 39 #[.val (.long q0), .second, .val (.int p1), .val (.int p2), .val (.int p3), .val (.ref b2), .unset, .unset, .unset, .unset] [])) _
  refine own_step (fun _ => XS.aload X7.here hx rfl (hb hby at_39) rfl rfl) ?_
  show own_Goes p.tables e below (T7.setTop (mkF m 41 #[.val (.long q0), .second, .val (.int p1), .val (.int p2), .val (.int p3), .val (.ref b2), .unset, .unset, .unset, .unset] [(.ref b2)])) _
  refine own_step (fun _ => XS.iconst X7.here hx rfl (hb hby at_41)) ?_
  show own_Goes p.tables e below (T7.setTop (mkF m 42 #[.val (.long q0), .second, .val (.int p1), .val (.int p2), .val (.int p3), .val (.ref b2), .unset, .unset, .unset, .unset] [(.int (3 : Int32)), (.ref b2)])) _
  refine own_step (fun _ => XS.lloadN X7.here hx rfl (hb hby at_42) rfl) ?_
  show own_Goes p.tables e below (T7.setTop (mkF m 43 #[.val (.long q0), .second, .val (.int p1), .val (.int p2), .val (.int p3), .val (.ref b2), .unset, .unset, .unset, .unset] [(.long q0), (.int (3 : Int32)), (.ref b2)])) _
  refine own_step (fun _ => XS.iload X7.here hx rfl (hb hby at_43) rfl) ?_
  show own_Goes p.tables e below (T7.setTop (mkF m 45 #[.val (.long q0), .second, .val (.int p1), .val (.int p2), .val (.int p3), .val (.ref b2), .unset, .unset, .unset, .unset] [(.int p3), (.long q0), (.int (3 : Int32)), (.ref b2)])) _
  refine own_step (fun _ => XS.iconst X7.here hx rfl (hb hby at_45)) ?_
  show own_Goes p.tables e below (T7.setTop (mkF m 46 #[.val (.long q0), .second, .val (.int p1), .val (.int p2), .val (.int p3), .val (.ref b2), .unset, .unset, .unset, .unset] [(.int (3 : Int32)), (.int p3), (.long q0), (.int (3 : Int32)), (.ref b2)])) _
  obtain ⟨_, _, ⟨T8, L8, k8, n8⟩, -, X8, ⟨Lc8, hQ8, l8, y8, z8⟩, st8⟩ := Jvm.LawKit.callS X7 hx (y := (⟨"com/example/kolektyv/kolektyv/records/Iso2709ReaderDigitsPinLaw", "at", "(JII)B"⟩ : MethodName)) hown (mvT hZ (hw _ (List.mem_of_getElem? (i := 1) rfl))) (mvT hZ (hw _ (List.mem_of_getElem? (i := 2) rfl))) (mvT hZ (hw _ (List.mem_of_getElem? (i := 3) rfl))) (mvT hZ (hw _ (List.mem_of_getElem? (i := 4) rfl))) (by decide) (backOf (W := 2) (rm1 l Z a0 hw [] q0 p3 (3 : Int32) h7 n0 Z7) hZ (hw _ (List.mem_of_getElem? (i := 4) rfl)) (hw _ (List.mem_of_getElem? (i := 3) rfl)) (by decide) (by decide)) (g := (mkF m 46 #[.val (.long q0), .second, .val (.int p1), .val (.int p2), .val (.int p3), .val (.ref b2), .unset, .unset, .unset, .unset] [(.int (3 : Int32)), (.int p3), (.long q0), (.int (3 : Int32)), (.ref b2)])) rfl (by rw [hml]; rfl) (argsL := [(.long q0), (.int p3), (.int (3 : Int32))]) (rest := [(.int (3 : Int32)), (.ref b2)]) (lenOf pd_0_0 rfl) rfl (by show 2 * 0 + _ ≤ _; exact Nat.le_of_eq rfl) (hb hby at_46) (fun _ _ => ⟨rfl, e7, (by decide : (0 + 1) + 0 ≤ _), (by decide : (0 + 8) + 0 ≤ _)⟩)
  dsimp only [Pt.U, Pt.locs, Pt.cells, Pt.slots] at X8 l8 y8 z8 st8 hQ8
  subst l8 y8 z8
  obtain ⟨rfl, rfl, e8⟩ := hQ8
  have X8 : Stand p l e room_1 s m #[(.long q0), (.int p1), (.int p2), (.int p3)] below meth c T8 L7 (0 + 1) (0 + 8) := own_flat X8
  refine own_step (st8) ?_
  show own_Goes p.tables e below (T8.setTop (mkF m 49 #[.val (.long q0), .second, .val (.int p1), .val (.int p2), .val (.int p3), .val (.ref b2), .unset, .unset, .unset, .unset] [(.int (own_f1 q0 p3 (3 : Int32))), (.int (3 : Int32)), (.ref b2)])) _
  obtain ⟨T9, h9, L9, X9, e9, N9, V9, W9, st9⟩ := own_stB X8 hx hZ e8 V7 (j := (3 : Int32)) 3 ⟨by decide, by decide⟩ (by decide) (show 3 < 8 by decide) (g := (mkF m 49 #[.val (.long q0), .second, .val (.int p1), .val (.int p2), .val (.int p3), .val (.ref b2), .unset, .unset, .unset, .unset] [(.int (own_f1 q0 p3 (3 : Int32))), (.int (3 : Int32)), (.ref b2)])) rfl rfl (hb hby at_49)
  have N9 := N9 n0 N7 g_b2
  have K9 : Keep h0 h9 [] := K7.wr W9 (Or.inr sz_b2)
  have Z9 : n0 ≤ h9.size := Nat.le_trans Z0 K9.1
  have V9 : own_A Z h9 b2 k1 .byte (8 : Int32) [(nar .byte (own_f1 q0 p3 (0 : Int32))), (nar .byte (own_f1 q0 p3 (1 : Int32))), (nar .byte (own_f1 q0 p3 (2 : Int32))), (nar .byte (own_f1 q0 p3 (3 : Int32))), (0 : Int32), (0 : Int32), (0 : Int32), (0 : Int32)] := V9
  refine own_step (st9) ?_
  show own_Goes p.tables e below (T9.setTop (mkF m 50 #[.val (.long q0), .second, .val (.int p1), .val (.int p2), .val (.int p3), .val (.ref b2), .unset, .unset, .unset, .unset] [])) _
  refine own_step (fun _ => XS.aload X9.here hx rfl (hb hby at_50) rfl rfl) ?_
  show own_Goes p.tables e below (T9.setTop (mkF m 52 #[.val (.long q0), .second, .val (.int p1), .val (.int p2), .val (.int p3), .val (.ref b2), .unset, .unset, .unset, .unset] [(.ref b2)])) _
  refine own_step (fun _ => XS.iconst X9.here hx rfl (hb hby at_52)) ?_
  show own_Goes p.tables e below (T9.setTop (mkF m 53 #[.val (.long q0), .second, .val (.int p1), .val (.int p2), .val (.int p3), .val (.ref b2), .unset, .unset, .unset, .unset] [(.int (4 : Int32)), (.ref b2)])) _
  refine own_step (fun _ => XS.lloadN X9.here hx rfl (hb hby at_53) rfl) ?_
  show own_Goes p.tables e below (T9.setTop (mkF m 54 #[.val (.long q0), .second, .val (.int p1), .val (.int p2), .val (.int p3), .val (.ref b2), .unset, .unset, .unset, .unset] [(.long q0), (.int (4 : Int32)), (.ref b2)])) _
  refine own_step (fun _ => XS.iload X9.here hx rfl (hb hby at_54) rfl) ?_
  show own_Goes p.tables e below (T9.setTop (mkF m 56 #[.val (.long q0), .second, .val (.int p1), .val (.int p2), .val (.int p3), .val (.ref b2), .unset, .unset, .unset, .unset] [(.int p3), (.long q0), (.int (4 : Int32)), (.ref b2)])) _
  refine own_step (fun _ => XS.iconst X9.here hx rfl (hb hby at_56)) ?_
  show own_Goes p.tables e below (T9.setTop (mkF m 57 #[.val (.long q0), .second, .val (.int p1), .val (.int p2), .val (.int p3), .val (.ref b2), .unset, .unset, .unset, .unset] [(.int (4 : Int32)), (.int p3), (.long q0), (.int (4 : Int32)), (.ref b2)])) _
  obtain ⟨_, _, ⟨T10, L10, k10, n10⟩, -, X10, ⟨Lc10, hQ10, l10, y10, z10⟩, st10⟩ := Jvm.LawKit.callS X9 hx (y := (⟨"com/example/kolektyv/kolektyv/records/Iso2709ReaderDigitsPinLaw", "at", "(JII)B"⟩ : MethodName)) hown (mvT hZ (hw _ (List.mem_of_getElem? (i := 1) rfl))) (mvT hZ (hw _ (List.mem_of_getElem? (i := 2) rfl))) (mvT hZ (hw _ (List.mem_of_getElem? (i := 3) rfl))) (mvT hZ (hw _ (List.mem_of_getElem? (i := 4) rfl))) (by decide) (backOf (W := 2) (rm1 l Z a0 hw [] q0 p3 (4 : Int32) h9 n0 Z9) hZ (hw _ (List.mem_of_getElem? (i := 4) rfl)) (hw _ (List.mem_of_getElem? (i := 3) rfl)) (by decide) (by decide)) (g := (mkF m 57 #[.val (.long q0), .second, .val (.int p1), .val (.int p2), .val (.int p3), .val (.ref b2), .unset, .unset, .unset, .unset] [(.int (4 : Int32)), (.int p3), (.long q0), (.int (4 : Int32)), (.ref b2)])) rfl (by rw [hml]; rfl) (argsL := [(.long q0), (.int p3), (.int (4 : Int32))]) (rest := [(.int (4 : Int32)), (.ref b2)]) (lenOf pd_0_0 rfl) rfl (by show 2 * 0 + _ ≤ _; exact Nat.le_of_eq rfl) (hb hby at_57) (fun _ _ => ⟨rfl, e9, (by decide : (0 + 1) + 0 ≤ _), (by decide : (0 + 8) + 0 ≤ _)⟩)
  dsimp only [Pt.U, Pt.locs, Pt.cells, Pt.slots] at X10 l10 y10 z10 st10 hQ10
  subst l10 y10 z10
  obtain ⟨rfl, rfl, e10⟩ := hQ10
  have X10 : Stand p l e room_1 s m #[(.long q0), (.int p1), (.int p2), (.int p3)] below meth c T10 L9 (0 + 1) (0 + 8) := own_flat X10
  refine own_step (st10) ?_
  show own_Goes p.tables e below (T10.setTop (mkF m 60 #[.val (.long q0), .second, .val (.int p1), .val (.int p2), .val (.int p3), .val (.ref b2), .unset, .unset, .unset, .unset] [(.int (own_f1 q0 p3 (4 : Int32))), (.int (4 : Int32)), (.ref b2)])) _
  obtain ⟨T11, h11, L11, X11, e11, N11, V11, W11, st11⟩ := own_stB X10 hx hZ e10 V9 (j := (4 : Int32)) 4 ⟨by decide, by decide⟩ (by decide) (show 4 < 8 by decide) (g := (mkF m 60 #[.val (.long q0), .second, .val (.int p1), .val (.int p2), .val (.int p3), .val (.ref b2), .unset, .unset, .unset, .unset] [(.int (own_f1 q0 p3 (4 : Int32))), (.int (4 : Int32)), (.ref b2)])) rfl rfl (hb hby at_60)
  have N11 := N11 n0 N9 g_b2
  have K11 : Keep h0 h11 [] := K9.wr W11 (Or.inr sz_b2)
  have Z11 : n0 ≤ h11.size := Nat.le_trans Z0 K11.1
  have V11 : own_A Z h11 b2 k1 .byte (8 : Int32) [(nar .byte (own_f1 q0 p3 (0 : Int32))), (nar .byte (own_f1 q0 p3 (1 : Int32))), (nar .byte (own_f1 q0 p3 (2 : Int32))), (nar .byte (own_f1 q0 p3 (3 : Int32))), (nar .byte (own_f1 q0 p3 (4 : Int32))), (0 : Int32), (0 : Int32), (0 : Int32)] := V11
  refine own_step (st11) ?_
  show own_Goes p.tables e below (T11.setTop (mkF m 61 #[.val (.long q0), .second, .val (.int p1), .val (.int p2), .val (.int p3), .val (.ref b2), .unset, .unset, .unset, .unset] [])) _
  refine own_step (fun _ => XS.aload X11.here hx rfl (hb hby at_61) rfl rfl) ?_
  show own_Goes p.tables e below (T11.setTop (mkF m 63 #[.val (.long q0), .second, .val (.int p1), .val (.int p2), .val (.int p3), .val (.ref b2), .unset, .unset, .unset, .unset] [(.ref b2)])) _
  refine own_step (fun _ => XS.iconst X11.here hx rfl (hb hby at_63)) ?_
  show own_Goes p.tables e below (T11.setTop (mkF m 64 #[.val (.long q0), .second, .val (.int p1), .val (.int p2), .val (.int p3), .val (.ref b2), .unset, .unset, .unset, .unset] [(.int (5 : Int32)), (.ref b2)])) _
  refine own_step (fun _ => XS.lloadN X11.here hx rfl (hb hby at_64) rfl) ?_
  show own_Goes p.tables e below (T11.setTop (mkF m 65 #[.val (.long q0), .second, .val (.int p1), .val (.int p2), .val (.int p3), .val (.ref b2), .unset, .unset, .unset, .unset] [(.long q0), (.int (5 : Int32)), (.ref b2)])) _
  refine own_step (fun _ => XS.iload X11.here hx rfl (hb hby at_65) rfl) ?_
  show own_Goes p.tables e below (T11.setTop (mkF m 67 #[.val (.long q0), .second, .val (.int p1), .val (.int p2), .val (.int p3), .val (.ref b2), .unset, .unset, .unset, .unset] [(.int p3), (.long q0), (.int (5 : Int32)), (.ref b2)])) _
  refine own_step (fun _ => XS.iconst X11.here hx rfl (hb hby at_67)) ?_
  show own_Goes p.tables e below (T11.setTop (mkF m 68 #[.val (.long q0), .second, .val (.int p1), .val (.int p2), .val (.int p3), .val (.ref b2), .unset, .unset, .unset, .unset] [(.int (5 : Int32)), (.int p3), (.long q0), (.int (5 : Int32)), (.ref b2)])) _
  obtain ⟨_, _, ⟨T12, L12, k12, n12⟩, -, X12, ⟨Lc12, hQ12, l12, y12, z12⟩, st12⟩ := Jvm.LawKit.callS X11 hx (y := (⟨"com/example/kolektyv/kolektyv/records/Iso2709ReaderDigitsPinLaw", "at", "(JII)B"⟩ : MethodName)) hown (mvT hZ (hw _ (List.mem_of_getElem? (i := 1) rfl))) (mvT hZ (hw _ (List.mem_of_getElem? (i := 2) rfl))) (mvT hZ (hw _ (List.mem_of_getElem? (i := 3) rfl))) (mvT hZ (hw _ (List.mem_of_getElem? (i := 4) rfl))) (by decide) (backOf (W := 2) (rm1 l Z a0 hw [] q0 p3 (5 : Int32) h11 n0 Z11) hZ (hw _ (List.mem_of_getElem? (i := 4) rfl)) (hw _ (List.mem_of_getElem? (i := 3) rfl)) (by decide) (by decide)) (g := (mkF m 68 #[.val (.long q0), .second, .val (.int p1), .val (.int p2), .val (.int p3), .val (.ref b2), .unset, .unset, .unset, .unset] [(.int (5 : Int32)), (.int p3), (.long q0), (.int (5 : Int32)), (.ref b2)])) rfl (by rw [hml]; rfl) (argsL := [(.long q0), (.int p3), (.int (5 : Int32))]) (rest := [(.int (5 : Int32)), (.ref b2)]) (lenOf pd_0_0 rfl) rfl (by show 2 * 0 + _ ≤ _; exact Nat.le_of_eq rfl) (hb hby at_68) (fun _ _ => ⟨rfl, e11, (by decide : (0 + 1) + 0 ≤ _), (by decide : (0 + 8) + 0 ≤ _)⟩)
  dsimp only [Pt.U, Pt.locs, Pt.cells, Pt.slots] at X12 l12 y12 z12 st12 hQ12
  subst l12 y12 z12
  obtain ⟨rfl, rfl, e12⟩ := hQ12
  have X12 : Stand p l e room_1 s m #[(.long q0), (.int p1), (.int p2), (.int p3)] below meth c T12 L11 (0 + 1) (0 + 8) := own_flat X12
  refine own_step (st12) ?_
  show own_Goes p.tables e below (T12.setTop (mkF m 71 #[.val (.long q0), .second, .val (.int p1), .val (.int p2), .val (.int p3), .val (.ref b2), .unset, .unset, .unset, .unset] [(.int (own_f1 q0 p3 (5 : Int32))), (.int (5 : Int32)), (.ref b2)])) _
  obtain ⟨T13, h13, L13, X13, e13, N13, V13, W13, st13⟩ := own_stB X12 hx hZ e12 V11 (j := (5 : Int32)) 5 ⟨by decide, by decide⟩ (by decide) (show 5 < 8 by decide) (g := (mkF m 71 #[.val (.long q0), .second, .val (.int p1), .val (.int p2), .val (.int p3), .val (.ref b2), .unset, .unset, .unset, .unset] [(.int (own_f1 q0 p3 (5 : Int32))), (.int (5 : Int32)), (.ref b2)])) rfl rfl (hb hby at_71)
  have N13 := N13 n0 N11 g_b2
  have K13 : Keep h0 h13 [] := K11.wr W13 (Or.inr sz_b2)
  have Z13 : n0 ≤ h13.size := Nat.le_trans Z0 K13.1
  have V13 : own_A Z h13 b2 k1 .byte (8 : Int32) [(nar .byte (own_f1 q0 p3 (0 : Int32))), (nar .byte (own_f1 q0 p3 (1 : Int32))), (nar .byte (own_f1 q0 p3 (2 : Int32))), (nar .byte (own_f1 q0 p3 (3 : Int32))), (nar .byte (own_f1 q0 p3 (4 : Int32))), (nar .byte (own_f1 q0 p3 (5 : Int32))), (0 : Int32), (0 : Int32)] := V13
  refine own_step (st13) ?_
  show own_Goes p.tables e below (T13.setTop (mkF m 72 #[.val (.long q0), .second, .val (.int p1), .val (.int p2), .val (.int p3), .val (.ref b2), .unset, .unset, .unset, .unset] [])) _
  refine own_step (fun _ => XS.aload X13.here hx rfl (hb hby at_72) rfl rfl) ?_
  show own_Goes p.tables e below (T13.setTop (mkF m 74 #[.val (.long q0), .second, .val (.int p1), .val (.int p2), .val (.int p3), .val (.ref b2), .unset, .unset, .unset, .unset] [(.ref b2)])) _
  refine own_step (fun _ => XS.bipush X13.here hx rfl (hb hby at_74)) ?_
  show own_Goes p.tables e below (T13.setTop (mkF m 76 #[.val (.long q0), .second, .val (.int p1), .val (.int p2), .val (.int p3), .val (.ref b2), .unset, .unset, .unset, .unset] [(.int (6 : Int32)), (.ref b2)])) _
  refine own_step (fun _ => XS.lloadN X13.here hx rfl (hb hby at_76) rfl) ?_
  show own_Goes p.tables e below (T13.setTop (mkF m 77 #[.val (.long q0), .second, .val (.int p1), .val (.int p2), .val (.int p3), .val (.ref b2), .unset, .unset, .unset, .unset] [(.long q0), (.int (6 : Int32)), (.ref b2)])) _
  refine own_step (fun _ => XS.iload X13.here hx rfl (hb hby at_77) rfl) ?_
  show own_Goes p.tables e below (T13.setTop (mkF m 79 #[.val (.long q0), .second, .val (.int p1), .val (.int p2), .val (.int p3), .val (.ref b2), .unset, .unset, .unset, .unset] [(.int p3), (.long q0), (.int (6 : Int32)), (.ref b2)])) _
  refine own_step (fun _ => XS.bipush X13.here hx rfl (hb hby at_79)) ?_
  show own_Goes p.tables e below (T13.setTop (mkF m 81 #[.val (.long q0), .second, .val (.int p1), .val (.int p2), .val (.int p3), .val (.ref b2), .unset, .unset, .unset, .unset] [(.int (6 : Int32)), (.int p3), (.long q0), (.int (6 : Int32)), (.ref b2)])) _
  obtain ⟨_, _, ⟨T14, L14, k14, n14⟩, -, X14, ⟨Lc14, hQ14, l14, y14, z14⟩, st14⟩ := Jvm.LawKit.callS X13 hx (y := (⟨"com/example/kolektyv/kolektyv/records/Iso2709ReaderDigitsPinLaw", "at", "(JII)B"⟩ : MethodName)) hown (mvT hZ (hw _ (List.mem_of_getElem? (i := 1) rfl))) (mvT hZ (hw _ (List.mem_of_getElem? (i := 2) rfl))) (mvT hZ (hw _ (List.mem_of_getElem? (i := 3) rfl))) (mvT hZ (hw _ (List.mem_of_getElem? (i := 4) rfl))) (by decide) (backOf (W := 2) (rm1 l Z a0 hw [] q0 p3 (6 : Int32) h13 n0 Z13) hZ (hw _ (List.mem_of_getElem? (i := 4) rfl)) (hw _ (List.mem_of_getElem? (i := 3) rfl)) (by decide) (by decide)) (g := (mkF m 81 #[.val (.long q0), .second, .val (.int p1), .val (.int p2), .val (.int p3), .val (.ref b2), .unset, .unset, .unset, .unset] [(.int (6 : Int32)), (.int p3), (.long q0), (.int (6 : Int32)), (.ref b2)])) rfl (by rw [hml]; rfl) (argsL := [(.long q0), (.int p3), (.int (6 : Int32))]) (rest := [(.int (6 : Int32)), (.ref b2)]) (lenOf pd_0_0 rfl) rfl (by show 2 * 0 + _ ≤ _; exact Nat.le_of_eq rfl) (hb hby at_81) (fun _ _ => ⟨rfl, e13, (by decide : (0 + 1) + 0 ≤ _), (by decide : (0 + 8) + 0 ≤ _)⟩)
  dsimp only [Pt.U, Pt.locs, Pt.cells, Pt.slots] at X14 l14 y14 z14 st14 hQ14
  subst l14 y14 z14
  obtain ⟨rfl, rfl, e14⟩ := hQ14
  have X14 : Stand p l e room_1 s m #[(.long q0), (.int p1), (.int p2), (.int p3)] below meth c T14 L13 (0 + 1) (0 + 8) := own_flat X14
  refine own_step (st14) ?_
  show own_Goes p.tables e below (T14.setTop (mkF m 84 #[.val (.long q0), .second, .val (.int p1), .val (.int p2), .val (.int p3), .val (.ref b2), .unset, .unset, .unset, .unset] [(.int (own_f1 q0 p3 (6 : Int32))), (.int (6 : Int32)), (.ref b2)])) _
  obtain ⟨T15, h15, L15, X15, e15, N15, V15, W15, st15⟩ := own_stB X14 hx hZ e14 V13 (j := (6 : Int32)) 6 ⟨by decide, by decide⟩ (by decide) (show 6 < 8 by decide) (g := (mkF m 84 #[.val (.long q0), .second, .val (.int p1), .val (.int p2), .val (.int p3), .val (.ref b2), .unset, .unset, .unset, .unset] [(.int (own_f1 q0 p3 (6 : Int32))), (.int (6 : Int32)), (.ref b2)])) rfl rfl (hb hby at_84)
  have N15 := N15 n0 N13 g_b2
  have K15 : Keep h0 h15 [] := K13.wr W15 (Or.inr sz_b2)
  have Z15 : n0 ≤ h15.size := Nat.le_trans Z0 K15.1
  have V15 : own_A Z h15 b2 k1 .byte (8 : Int32) [(nar .byte (own_f1 q0 p3 (0 : Int32))), (nar .byte (own_f1 q0 p3 (1 : Int32))), (nar .byte (own_f1 q0 p3 (2 : Int32))), (nar .byte (own_f1 q0 p3 (3 : Int32))), (nar .byte (own_f1 q0 p3 (4 : Int32))), (nar .byte (own_f1 q0 p3 (5 : Int32))), (nar .byte (own_f1 q0 p3 (6 : Int32))), (0 : Int32)] := V15
  refine own_step (st15) ?_
  show own_Goes p.tables e below (T15.setTop (mkF m 85 #[.val (.long q0), .second, .val (.int p1), .val (.int p2), .val (.int p3), .val (.ref b2), .unset, .unset, .unset, .unset] [])) _
  refine own_step (fun _ => XS.aload X15.here hx rfl (hb hby at_85) rfl rfl) ?_
  show own_Goes p.tables e below (T15.setTop (mkF m 87 #[.val (.long q0), .second, .val (.int p1), .val (.int p2), .val (.int p3), .val (.ref b2), .unset, .unset, .unset, .unset] [(.ref b2)])) _
  refine own_step (fun _ => XS.bipush X15.here hx rfl (hb hby at_87)) ?_
  show own_Goes p.tables e below (T15.setTop (mkF m 89 #[.val (.long q0), .second, .val (.int p1), .val (.int p2), .val (.int p3), .val (.ref b2), .unset, .unset, .unset, .unset] [(.int (7 : Int32)), (.ref b2)])) _
  refine own_step (fun _ => XS.lloadN X15.here hx rfl (hb hby at_89) rfl) ?_
  show own_Goes p.tables e below (T15.setTop (mkF m 90 #[.val (.long q0), .second, .val (.int p1), .val (.int p2), .val (.int p3), .val (.ref b2), .unset, .unset, .unset, .unset] [(.long q0), (.int (7 : Int32)), (.ref b2)])) _
  refine own_step (fun _ => XS.iload X15.here hx rfl (hb hby at_90) rfl) ?_
  show own_Goes p.tables e below (T15.setTop (mkF m 92 #[.val (.long q0), .second, .val (.int p1), .val (.int p2), .val (.int p3), .val (.ref b2), .unset, .unset, .unset, .unset] [(.int p3), (.long q0), (.int (7 : Int32)), (.ref b2)])) _
  refine own_step (fun _ => XS.bipush X15.here hx rfl (hb hby at_92)) ?_
  show own_Goes p.tables e below (T15.setTop (mkF m 94 #[.val (.long q0), .second, .val (.int p1), .val (.int p2), .val (.int p3), .val (.ref b2), .unset, .unset, .unset, .unset] [(.int (7 : Int32)), (.int p3), (.long q0), (.int (7 : Int32)), (.ref b2)])) _
  obtain ⟨_, _, ⟨T16, L16, k16, n16⟩, -, X16, ⟨Lc16, hQ16, l16, y16, z16⟩, st16⟩ := Jvm.LawKit.callS X15 hx (y := (⟨"com/example/kolektyv/kolektyv/records/Iso2709ReaderDigitsPinLaw", "at", "(JII)B"⟩ : MethodName)) hown (mvT hZ (hw _ (List.mem_of_getElem? (i := 1) rfl))) (mvT hZ (hw _ (List.mem_of_getElem? (i := 2) rfl))) (mvT hZ (hw _ (List.mem_of_getElem? (i := 3) rfl))) (mvT hZ (hw _ (List.mem_of_getElem? (i := 4) rfl))) (by decide) (backOf (W := 2) (rm1 l Z a0 hw [] q0 p3 (7 : Int32) h15 n0 Z15) hZ (hw _ (List.mem_of_getElem? (i := 4) rfl)) (hw _ (List.mem_of_getElem? (i := 3) rfl)) (by decide) (by decide)) (g := (mkF m 94 #[.val (.long q0), .second, .val (.int p1), .val (.int p2), .val (.int p3), .val (.ref b2), .unset, .unset, .unset, .unset] [(.int (7 : Int32)), (.int p3), (.long q0), (.int (7 : Int32)), (.ref b2)])) rfl (by rw [hml]; rfl) (argsL := [(.long q0), (.int p3), (.int (7 : Int32))]) (rest := [(.int (7 : Int32)), (.ref b2)]) (lenOf pd_0_0 rfl) rfl (by show 2 * 0 + _ ≤ _; exact Nat.le_of_eq rfl) (hb hby at_94) (fun _ _ => ⟨rfl, e15, (by decide : (0 + 1) + 0 ≤ _), (by decide : (0 + 8) + 0 ≤ _)⟩)
  dsimp only [Pt.U, Pt.locs, Pt.cells, Pt.slots] at X16 l16 y16 z16 st16 hQ16
  subst l16 y16 z16
  obtain ⟨rfl, rfl, e16⟩ := hQ16
  have X16 : Stand p l e room_1 s m #[(.long q0), (.int p1), (.int p2), (.int p3)] below meth c T16 L15 (0 + 1) (0 + 8) := own_flat X16
  refine own_step (st16) ?_
  show own_Goes p.tables e below (T16.setTop (mkF m 97 #[.val (.long q0), .second, .val (.int p1), .val (.int p2), .val (.int p3), .val (.ref b2), .unset, .unset, .unset, .unset] [(.int (own_f1 q0 p3 (7 : Int32))), (.int (7 : Int32)), (.ref b2)])) _
  obtain ⟨T17, h17, L17, X17, e17, N17, V17, W17, st17⟩ := own_stB X16 hx hZ e16 V15 (j := (7 : Int32)) 7 ⟨by decide, by decide⟩ (by decide) (show 7 < 8 by decide) (g := (mkF m 97 #[.val (.long q0), .second, .val (.int p1), .val (.int p2), .val (.int p3), .val (.ref b2), .unset, .unset, .unset, .unset] [(.int (own_f1 q0 p3 (7 : Int32))), (.int (7 : Int32)), (.ref b2)])) rfl rfl (hb hby at_97)
  have N17 := N17 n0 N15 g_b2
  have K17 : Keep h0 h17 [] := K15.wr W17 (Or.inr sz_b2)
  have Z17 : n0 ≤ h17.size := Nat.le_trans Z0 K17.1
  have V17 : own_A Z h17 b2 k1 .byte (8 : Int32) [(nar .byte (own_f1 q0 p3 (0 : Int32))), (nar .byte (own_f1 q0 p3 (1 : Int32))), (nar .byte (own_f1 q0 p3 (2 : Int32))), (nar .byte (own_f1 q0 p3 (3 : Int32))), (nar .byte (own_f1 q0 p3 (4 : Int32))), (nar .byte (own_f1 q0 p3 (5 : Int32))), (nar .byte (own_f1 q0 p3 (6 : Int32))), (nar .byte (own_f1 q0 p3 (7 : Int32)))] := V17
  refine own_step (st17) ?_
  show own_Goes p.tables e below (T17.setTop (mkF m 98 #[.val (.long q0), .second, .val (.int p1), .val (.int p2), .val (.int p3), .val (.ref b2), .unset, .unset, .unset, .unset] [])) _
  obtain ⟨ys, hys⟩ : ∃ z : List Int32, z = [(nar .byte (own_f1 q0 p3 (0 : Int32))), (nar .byte (own_f1 q0 p3 (1 : Int32))), (nar .byte (own_f1 q0 p3 (2 : Int32))), (nar .byte (own_f1 q0 p3 (3 : Int32))), (nar .byte (own_f1 q0 p3 (4 : Int32))), (nar .byte (own_f1 q0 p3 (5 : Int32))), (nar .byte (own_f1 q0 p3 (6 : Int32))), (nar .byte (own_f1 q0 p3 (7 : Int32)))] := ⟨_, rfl⟩
  have V_ys : own_A Z h17 b2 k1 .byte (8 : Int32) ys := by rw [hys]; exact V17
  refine own_step (fun _ => XS.iloadN X17.here hx rfl (hb hby at_98) rfl) ?_
  show own_Goes p.tables e below (T17.setTop (mkF m 99 #[.val (.long q0), .second, .val (.int p1), .val (.int p2), .val (.int p3), .val (.ref b2), .unset, .unset, .unset, .unset] [(.int p1)])) _
  refine own_step (X17.ldcInt hx hown (mvT hZ (hw _ (List.mem_of_getElem? (i := 6) rfl))) (g := (mkF m 99 #[.val (.long q0), .second, .val (.int p1), .val (.int p2), .val (.int p3), .val (.ref b2), .unset, .unset, .unset, .unset] [(.int p1)])) rfl (hb hby at_99)) ?_
  show own_Goes p.tables e below (T17.setTop (mkF m 101 #[.val (.long q0), .second, .val (.int p1), .val (.int p2), .val (.int p3), .val (.ref b2), .unset, .unset, .unset, .unset] [(.int (2147483647 : Int32)), (.int p1)])) _
  refine own_step (fun _ => XS.iand X17.here hx rfl (hb hby at_101) rfl) ?_
  show own_Goes p.tables e below (T17.setTop (mkF m 102 #[.val (.long q0), .second, .val (.int p1), .val (.int p2), .val (.int p3), .val (.ref b2), .unset, .unset, .unset, .unset] [(.int (p1 &&& (2147483647 : Int32)))])) _
  refine own_step (fun _ => XS.bipush X17.here hx rfl (hb hby at_102)) ?_
  show own_Goes p.tables e below (T17.setTop (mkF m 104 #[.val (.long q0), .second, .val (.int p1), .val (.int p2), .val (.int p3), .val (.ref b2), .unset, .unset, .unset, .unset] [(.int (9 : Int32)), (.int (p1 &&& (2147483647 : Int32)))])) _
  refine own_step (fun _ => XS.irem X17.here hx rfl (hb hby at_104) rfl (by decide)) ?_
  show own_Goes p.tables e below (T17.setTop (mkF m 105 #[.val (.long q0), .second, .val (.int p1), .val (.int p2), .val (.int p3), .val (.ref b2), .unset, .unset, .unset, .unset] [(.int ((p1 &&& (2147483647 : Int32)) - (p1 &&& (2147483647 : Int32)) / (9 : Int32) * (9 : Int32)))])) _
  obtain ⟨z105, hz105⟩ : ∃ z : Int32, z = ((p1 &&& (2147483647 : Int32)) - (p1 &&& (2147483647 : Int32)) / (9 : Int32) * (9 : Int32)) := ⟨_, rfl⟩
  refine own_step (fun _ => XS.istore X17.here hx rfl (hb hby at_105) rfl (l' := #[.val (.long q0), .second, .val (.int p1), .val (.int p2), .val (.int p3), .val (.ref b2), .val (.int z105), .unset, .unset, .unset]) (by subst hz105; rfl)) ?_
  show own_Goes p.tables e below (T17.setTop (mkF m 107 #[.val (.long q0), .second, .val (.int p1), .val (.int p2), .val (.int p3), .val (.ref b2), .val (.int z105), .unset, .unset, .unset] [])) _
  refine own_step (fun _ => XS.iloadN X17.here hx rfl (hb hby at_107) rfl) ?_
  show own_Goes p.tables e below (T17.setTop (mkF m 108 #[.val (.long q0), .second, .val (.int p1), .val (.int p2), .val (.int p3), .val (.ref b2), .val (.int z105), .unset, .unset, .unset] [(.int p2)])) _
  refine own_step (X17.ldcInt hx hown (mvT hZ (hw _ (List.mem_of_getElem? (i := 6) rfl))) (g := (mkF m 108 #[.val (.long q0), .second, .val (.int p1), .val (.int p2), .val (.int p3), .val (.ref b2), .val (.int z105), .unset, .unset, .unset] [(.int p2)])) rfl (hb hby at_108)) ?_
  show own_Goes p.tables e below (T17.setTop (mkF m 110 #[.val (.long q0), .second, .val (.int p1), .val (.int p2), .val (.int p3), .val (.ref b2), .val (.int z105), .unset, .unset, .unset] [(.int (2147483647 : Int32)), (.int p2)])) _
  refine own_step (fun _ => XS.iand X17.here hx rfl (hb hby at_110) rfl) ?_
  show own_Goes p.tables e below (T17.setTop (mkF m 111 #[.val (.long q0), .second, .val (.int p1), .val (.int p2), .val (.int p3), .val (.ref b2), .val (.int z105), .unset, .unset, .unset] [(.int (p2 &&& (2147483647 : Int32)))])) _
  refine own_step (fun _ => XS.bipush X17.here hx rfl (hb hby at_111)) ?_
  show own_Goes p.tables e below (T17.setTop (mkF m 113 #[.val (.long q0), .second, .val (.int p1), .val (.int p2), .val (.int p3), .val (.ref b2), .val (.int z105), .unset, .unset, .unset] [(.int (9 : Int32)), (.int (p2 &&& (2147483647 : Int32)))])) _
  refine own_step (fun _ => XS.iload X17.here hx rfl (hb hby at_113) rfl) ?_
  show own_Goes p.tables e below (T17.setTop (mkF m 115 #[.val (.long q0), .second, .val (.int p1), .val (.int p2), .val (.int p3), .val (.ref b2), .val (.int z105), .unset, .unset, .unset] [(.int z105), (.int (9 : Int32)), (.int (p2 &&& (2147483647 : Int32)))])) _
  refine own_step (fun _ => XS.isub X17.here hx rfl (hb hby at_115) rfl) ?_
  show own_Goes p.tables e below (T17.setTop (mkF m 116 #[.val (.long q0), .second, .val (.int p1), .val (.int p2), .val (.int p3), .val (.ref b2), .val (.int z105), .unset, .unset, .unset] [(.int ((9 : Int32) - z105)), (.int (p2 &&& (2147483647 : Int32)))])) _
  refine own_step (fun _ => XS.irem X17.here hx rfl (hb hby at_116) rfl (by subst hz105; exact own_nz (own_first p1))) ?_
  show own_Goes p.tables e below (T17.setTop (mkF m 117 #[.val (.long q0), .second, .val (.int p1), .val (.int p2), .val (.int p3), .val (.ref b2), .val (.int z105), .unset, .unset, .unset] [(.int ((p2 &&& (2147483647 : Int32)) - (p2 &&& (2147483647 : Int32)) / ((9 : Int32) - z105) * ((9 : Int32) - z105)))])) _
  obtain ⟨z117, hz117⟩ : ∃ z : Int32, z = ((p2 &&& (2147483647 : Int32)) - (p2 &&& (2147483647 : Int32)) / ((9 : Int32) - z105) * ((9 : Int32) - z105)) := ⟨_, rfl⟩
  refine own_step (fun _ => XS.istore X17.here hx rfl (hb hby at_117) rfl (l' := #[.val (.long q0), .second, .val (.int p1), .val (.int p2), .val (.int p3), .val (.ref b2), .val (.int z105), .val (.int z117), .unset, .unset]) (by subst hz117; rfl)) ?_
  show own_Goes p.tables e below (T17.setTop (mkF m 119 #[.val (.long q0), .second, .val (.int p1), .val (.int p2), .val (.int p3), .val (.ref b2), .val (.int z105), .val (.int z117), .unset, .unset] [])) _
  refine own_step (fun _ => XS.aload X17.here hx rfl (hb hby at_119) rfl rfl) ?_
  show own_Goes p.tables e below (T17.setTop (mkF m 121 #[.val (.long q0), .second, .val (.int p1), .val (.int p2), .val (.int p3), .val (.ref b2), .val (.int z105), .val (.int z117), .unset, .unset] [(.ref b2)])) _
  refine own_step (fun _ => XS.iconst X17.here hx rfl (hb hby at_121)) ?_
  show own_Goes p.tables e below (T17.setTop (mkF m 122 #[.val (.long q0), .second, .val (.int p1), .val (.int p2), .val (.int p3), .val (.ref b2), .val (.int z105), .val (.int z117), .unset, .unset] [(.int (0 : Int32)), (.ref b2)])) _
  refine own_step (fun _ => XS.iload X17.here hx rfl (hb hby at_122) rfl) ?_
  show own_Goes p.tables e below (T17.setTop (mkF m 124 #[.val (.long q0), .second, .val (.int p1), .val (.int p2), .val (.int p3), .val (.ref b2), .val (.int z105), .val (.int z117), .unset, .unset] [(.int z117), (.int (0 : Int32)), (.ref b2)])) _
  refine own_step (fun _ => XS.iload X17.here hx rfl (hb hby at_124) rfl) ?_
  show own_Goes p.tables e below (T17.setTop (mkF m 126 #[.val (.long q0), .second, .val (.int p1), .val (.int p2), .val (.int p3), .val (.ref b2), .val (.int z105), .val (.int z117), .unset, .unset] [(.int z105), (.int z117), (.int (0 : Int32)), (.ref b2)])) _
  obtain ⟨_, _, ⟨T18, L18, k18, n18⟩, -, X18, ⟨Lc18, hQ18, l18, y18, z18⟩, st18⟩ := Jvm.LawKit.callS X17 hx (y := (⟨"com/example/kolektyv/kolektyv/records/Iso2709ReaderDigitsPinLaw", "ok", "([BIII)Z"⟩ : MethodName)) hown (mvT hZ (hw _ (List.mem_of_getElem? (i := 7) rfl))) (mvT hZ (hw _ (List.mem_of_getElem? (i := 8) rfl))) (mvT hZ (hw _ (List.mem_of_getElem? (i := 3) rfl))) (mvT hZ (hw _ (List.mem_of_getElem? (i := 9) rfl))) (by decide) (backOf (W := 0) (rm2 l Z a0 hw [] b2 (0 : Int32) z117 z105 ys k1 h17 n0 Z17 V_ys (by decide)) hZ (hw _ (List.mem_of_getElem? (i := 9) rfl)) (hw _ (List.mem_of_getElem? (i := 3) rfl)) (by decide) (by decide)) (g := (mkF m 126 #[.val (.long q0), .second, .val (.int p1), .val (.int p2), .val (.int p3), .val (.ref b2), .val (.int z105), .val (.int z117), .unset, .unset] [(.int z105), (.int z117), (.int (0 : Int32)), (.ref b2)])) rfl (by rw [hml]; rfl) (argsL := [(.ref b2), (.int (0 : Int32)), (.int z117), (.int z105)]) (rest := []) (lenOf pd_0_1 rfl) rfl (by show 2 * 0 + _ ≤ _; exact Nat.le_of_eq rfl) (hb hby at_126) (fun _ _ => ⟨rfl, e17, (by decide : (0 + 1) + 0 ≤ _), (by decide : (0 + 8) + 0 ≤ _)⟩)
  dsimp only [Pt.U, Pt.locs, Pt.cells, Pt.slots] at X18 l18 y18 z18 st18 hQ18
  subst l18 y18 z18
  obtain ⟨rfl, rfl, e18⟩ := hQ18
  have X18 : Stand p l e room_1 s m #[(.long q0), (.int p1), (.int p2), (.int p3)] below meth c T18 L17 (0 + 1) (0 + 8) := own_flat X18
  refine own_step (st18) ?_
  show own_Goes p.tables e below (T18.setTop (mkF m 129 #[.val (.long q0), .second, .val (.int p1), .val (.int p2), .val (.int p3), .val (.ref b2), .val (.int z105), .val (.int z117), .unset, .unset] [(.int (own_f2 ys (0 : Int32) z117 z105))])) _
  have J230 : ∀ (T_230 : State) (X_230 : Stand p l e room_1 s m #[(.long q0), (.int p1), (.int p2), (.int p3)] below meth c T_230 L17 (0 + 1) (0 + 8)) (e_230 : T_230.heap = h17) (v230_t0 : Int32), own_Goes p.tables e below (T_230.setTop (mkF m 230 #[.val (.long q0), .second, .val (.int p1), .val (.int p2), .val (.int p3), .val (.ref b2), .val (.int z105), .val (.int z117), .unset, .unset] [(.int v230_t0)])) (own_P s (own_Ql (some (.int (own_f0_230 ys z105 z117 v230_t0))) n0) 1 8) := by
    intro T_230 X_230 e_230 v230_t0
    refine own_step (fun _ => XS.istore X_230.here hx rfl (hb hby at_230) rfl (l' := #[.val (.long q0), .second, .val (.int p1), .val (.int p2), .val (.int p3), .val (.ref b2), .val (.int z105), .val (.int z117), .val (.int v230_t0), .unset]) rfl) ?_
    show own_Goes p.tables e below (T_230.setTop (mkF m 232 #[.val (.long q0), .second, .val (.int p1), .val (.int p2), .val (.int p3), .val (.ref b2), .val (.int z105), .val (.int z117), .val (.int v230_t0), .unset] [])) _
    refine own_step (fun _ => XS.iload X_230.here hx rfl (hb hby at_232) rfl) ?_
    show own_Goes p.tables e below (T_230.setTop (mkF m 234 #[.val (.long q0), .second, .val (.int p1), .val (.int p2), .val (.int p3), .val (.ref b2), .val (.int z105), .val (.int z117), .val (.int v230_t0), .unset] [(.int v230_t0)])) _
    have J334 : ∀ (T_334 : State) (X_334 : Stand p l e room_1 s m #[(.long q0), (.int p1), (.int p2), (.int p3)] below meth c T_334 L17 (0 + 1) (0 + 8)) (e_334 : T_334.heap = h17) (v334_l9 : Int32), own_Goes p.tables e below (T_334.setTop (mkF m 334 #[.val (.long q0), .second, .val (.int p1), .val (.int p2), .val (.int p3), .val (.ref b2), .val (.int z105), .val (.int z117), .val (.int v230_t0), .val (.int v334_l9)] [])) (own_P s (own_Ql (some (.int (own_f0_334 ys z105 z117 v334_l9))) n0) 1 8) := by
      intro T_334 X_334 e_334 v334_l9
      refine own_step (fun _ => XS.aload X_334.here hx rfl (hb hby at_334) rfl rfl) ?_
      show own_Goes p.tables e below (T_334.setTop (mkF m 336 #[.val (.long q0), .second, .val (.int p1), .val (.int p2), .val (.int p3), .val (.ref b2), .val (.int z105), .val (.int z117), .val (.int v230_t0), .val (.int v334_l9)] [(.ref b2)])) _
      refine own_step (fun _ => XS.iload X_334.here hx rfl (hb hby at_336) rfl) ?_
      show own_Goes p.tables e below (T_334.setTop (mkF m 338 #[.val (.long q0), .second, .val (.int p1), .val (.int p2), .val (.int p3), .val (.ref b2), .val (.int z105), .val (.int z117), .val (.int v230_t0), .val (.int v334_l9)] [(.int z117), (.ref b2)])) _
      refine own_step (fun _ => XS.iload X_334.here hx rfl (hb hby at_338) rfl) ?_
      show own_Goes p.tables e below (T_334.setTop (mkF m 340 #[.val (.long q0), .second, .val (.int p1), .val (.int p2), .val (.int p3), .val (.ref b2), .val (.int z105), .val (.int z117), .val (.int v230_t0), .val (.int v334_l9)] [(.int z105), (.int z117), (.ref b2)])) _
      obtain ⟨_, _, ⟨T19, L19, k19, n19⟩, -, X19, ⟨Lc19, hQ19, l19, y19, z19⟩, st19⟩ := Jvm.LawKit.callS X_334 hx (y := (⟨"com/example/kolektyv/kolektyv/records/Iso2709Reader", "digits", "([BII)I"⟩ : MethodName)) hown (mvT hZ (hw _ (List.mem_of_getElem? (i := 13) rfl))) (mvT hZ (hw _ (List.mem_of_getElem? (i := 14) rfl))) (mvT hZ (hw _ (List.mem_of_getElem? (i := 15) rfl))) (mvT hZ (hw _ (List.mem_of_getElem? (i := 16) rfl))) (by decide) (backOf (W := 0) (rm4 l Z a0 hw [] b2 z117 z105 ys k1 h17 n0 Z17 V_ys (by subst hz117; subst hz105; exact own_from (own_first p1) p2)) hZ (hw _ (List.mem_of_getElem? (i := 16) rfl)) (hw _ (List.mem_of_getElem? (i := 15) rfl)) (by decide) (by decide)) (g := (mkF m 340 #[.val (.long q0), .second, .val (.int p1), .val (.int p2), .val (.int p3), .val (.ref b2), .val (.int z105), .val (.int z117), .val (.int v230_t0), .val (.int v334_l9)] [(.int z105), (.int z117), (.ref b2)])) rfl (by rw [hml]; rfl) (argsL := [(.ref b2), (.int z117), (.int z105)]) (rest := []) (lenOf pd_0_2 rfl) rfl (by show 2 * 0 + _ ≤ _; exact Nat.le_of_eq rfl) (hb hby at_340) (fun _ _ => ⟨rfl, e_334, (by decide : (0 + 1) + 0 ≤ _), (by decide : (0 + 8) + 0 ≤ _)⟩)
      dsimp only [Pt.U, Pt.locs, Pt.cells, Pt.slots] at X19 l19 y19 z19 st19 hQ19
      subst l19 y19 z19
      obtain ⟨rfl, rfl, e19⟩ := hQ19
      have X19 : Stand p l e room_1 s m #[(.long q0), (.int p1), (.int p2), (.int p3)] below meth c T19 L17 (0 + 1) (0 + 8) := own_flat X19
      refine own_step (st19) ?_
      show own_Goes p.tables e below (T19.setTop (mkF m 343 #[.val (.long q0), .second, .val (.int p1), .val (.int p2), .val (.int p3), .val (.ref b2), .val (.int z105), .val (.int z117), .val (.int v230_t0), .val (.int v334_l9)] [(.int (own_f4 ys z117 z105))])) _
      refine own_step (fun _ => XS.iload X19.here hx rfl (hb hby at_343) rfl) ?_
      show own_Goes p.tables e below (T19.setTop (mkF m 345 #[.val (.long q0), .second, .val (.int p1), .val (.int p2), .val (.int p3), .val (.ref b2), .val (.int z105), .val (.int z117), .val (.int v230_t0), .val (.int v334_l9)] [(.int v334_l9), (.int (own_f4 ys z117 z105))])) _
      by_cases hc345 : (own_f4 ys z117 z105) = v334_l9
      · refine own_step (fun _ => XS.icmpNo X19.here hx rfl (hb hby at_345) rfl (Jvm.Free.XT.ii_ne_f hc345)) ?_
        show own_Goes p.tables e below (T19.setTop (mkF m 348 #[.val (.long q0), .second, .val (.int p1), .val (.int p2), .val (.int p3), .val (.ref b2), .val (.int z105), .val (.int z117), .val (.int v230_t0), .val (.int v334_l9)] [])) _
        refine own_step (fun _ => XS.iconst X19.here hx rfl (hb hby at_348)) ?_
        show own_Goes p.tables e below (T19.setTop (mkF m 349 #[.val (.long q0), .second, .val (.int p1), .val (.int p2), .val (.int p3), .val (.ref b2), .val (.int z105), .val (.int z117), .val (.int v230_t0), .val (.int v334_l9)] [(.int (1 : Int32))])) _
        refine own_step (fun _ => XS.goto X19.here hx rfl (pc0 := 349) (pc' := 353) rfl (hb hby at_349) (by decide) (by decide)) ?_
        show own_Goes p.tables e below (T19.setTop (mkF m 353 #[.val (.long q0), .second, .val (.int p1), .val (.int p2), .val (.int p3), .val (.ref b2), .val (.int z105), .val (.int z117), .val (.int v230_t0), .val (.int v334_l9)] [(.int (1 : Int32))])) _
        have hv : (own_f0_334 ys z105 z117 v334_l9) = (1 : Int32) := by exact (if_pos hc345)
        rw [hv]
        exact own_retN X19 hx (t := .boolean) Bd.returns (by simp) (hb hby at_353) (BodyLoose.notSynchronized Bd) (w := (1 : Int32)) rfl ⟨rfl, N17⟩ (by decide) (by decide)
      · refine own_step (fun _ => XS.icmpYes X19.here hx rfl (pc0 := 345) (pc' := 352) rfl (hb hby at_345) rfl (Jvm.Free.XT.ii_ne_t hc345) (by decide) (by decide)) ?_
        show own_Goes p.tables e below (T19.setTop (mkF m 352 #[.val (.long q0), .second, .val (.int p1), .val (.int p2), .val (.int p3), .val (.ref b2), .val (.int z105), .val (.int z117), .val (.int v230_t0), .val (.int v334_l9)] [])) _
        refine own_step (fun _ => XS.iconst X19.here hx rfl (hb hby at_352)) ?_
        show own_Goes p.tables e below (T19.setTop (mkF m 353 #[.val (.long q0), .second, .val (.int p1), .val (.int p2), .val (.int p3), .val (.ref b2), .val (.int z105), .val (.int z117), .val (.int v230_t0), .val (.int v334_l9)] [(.int (0 : Int32))])) _
        have hv : (own_f0_334 ys z105 z117 v334_l9) = (0 : Int32) := by exact (if_neg hc345)
        rw [hv]
        exact own_retN X19 hx (t := .boolean) Bd.returns (by simp) (hb hby at_353) (BodyLoose.notSynchronized Bd) (w := (0 : Int32)) rfl ⟨rfl, N17⟩ (by decide) (by decide)
    by_cases hc234 : v230_t0 = 0
    · refine own_step (fun _ => XS.ifNo X_230.here hx rfl (hb hby at_234) rfl (Jvm.Free.XT.i0_ne_f hc234)) ?_
      show own_Goes p.tables e below (T_230.setTop (mkF m 237 #[.val (.long q0), .second, .val (.int p1), .val (.int p2), .val (.int p3), .val (.ref b2), .val (.int z105), .val (.int z117), .val (.int v230_t0), .unset] [])) _
      refine own_step (fun _ => XS.iconst X_230.here hx rfl (hb hby at_237)) ?_
      show own_Goes p.tables e below (T_230.setTop (mkF m 238 #[.val (.long q0), .second, .val (.int p1), .val (.int p2), .val (.int p3), .val (.ref b2), .val (.int z105), .val (.int z117), .val (.int v230_t0), .unset] [(.int (-1 : Int32))])) _
      refine own_step (fun _ => XS.istore X_230.here hx rfl (hb hby at_238) rfl (l' := #[.val (.long q0), .second, .val (.int p1), .val (.int p2), .val (.int p3), .val (.ref b2), .val (.int z105), .val (.int z117), .val (.int v230_t0), .val (.int (-1 : Int32))]) rfl) ?_
      show own_Goes p.tables e below (T_230.setTop (mkF m 240 #[.val (.long q0), .second, .val (.int p1), .val (.int p2), .val (.int p3), .val (.ref b2), .val (.int z105), .val (.int z117), .val (.int v230_t0), .val (.int (-1 : Int32))] [])) _
      refine own_step (fun _ => XS.goto X_230.here hx rfl (pc0 := 240) (pc' := 334) rfl (hb hby at_240) (by decide) (by decide)) ?_
      show own_Goes p.tables e below (T_230.setTop (mkF m 334 #[.val (.long q0), .second, .val (.int p1), .val (.int p2), .val (.int p3), .val (.ref b2), .val (.int z105), .val (.int z117), .val (.int v230_t0), .val (.int (-1 : Int32))] [])) _
      have hv : (own_f0_230 ys z105 z117 v230_t0) = (own_f0_334 ys z105 z117 (-1 : Int32)) := by exact (if_pos hc234)
      rw [hv]
      exact J334 T_230 X_230 e_230 (-1 : Int32)
    · refine own_step (fun _ => XS.ifYes X_230.here hx rfl (pc0 := 234) (pc' := 243) rfl (hb hby at_234) rfl (Jvm.Free.XT.i0_ne_t hc234) (by decide) (by decide)) ?_
      show own_Goes p.tables e below (T_230.setTop (mkF m 243 #[.val (.long q0), .second, .val (.int p1), .val (.int p2), .val (.int p3), .val (.ref b2), .val (.int z105), .val (.int z117), .val (.int v230_t0), .unset] [])) _
      refine own_step (fun _ => XS.aload X_230.here hx rfl (hb hby at_243) rfl rfl) ?_
      show own_Goes p.tables e below (T_230.setTop (mkF m 245 #[.val (.long q0), .second, .val (.int p1), .val (.int p2), .val (.int p3), .val (.ref b2), .val (.int z105), .val (.int z117), .val (.int v230_t0), .unset] [(.ref b2)])) _
      refine own_step (fun _ => XS.iconst X_230.here hx rfl (hb hby at_245)) ?_
      show own_Goes p.tables e below (T_230.setTop (mkF m 246 #[.val (.long q0), .second, .val (.int p1), .val (.int p2), .val (.int p3), .val (.ref b2), .val (.int z105), .val (.int z117), .val (.int v230_t0), .unset] [(.int (0 : Int32)), (.ref b2)])) _
      refine own_step (fun _ => XS.iload X_230.here hx rfl (hb hby at_246) rfl) ?_
      show own_Goes p.tables e below (T_230.setTop (mkF m 248 #[.val (.long q0), .second, .val (.int p1), .val (.int p2), .val (.int p3), .val (.ref b2), .val (.int z105), .val (.int z117), .val (.int v230_t0), .unset] [(.int z117), (.int (0 : Int32)), (.ref b2)])) _
      refine own_step (fun _ => XS.iload X_230.here hx rfl (hb hby at_248) rfl) ?_
      show own_Goes p.tables e below (T_230.setTop (mkF m 250 #[.val (.long q0), .second, .val (.int p1), .val (.int p2), .val (.int p3), .val (.ref b2), .val (.int z105), .val (.int z117), .val (.int v230_t0), .unset] [(.int z105), (.int z117), (.int (0 : Int32)), (.ref b2)])) _
      obtain ⟨_, _, ⟨T20, L20, k20, n20⟩, -, X20, ⟨Lc20, hQ20, l20, y20, z20⟩, st20⟩ := Jvm.LawKit.callS X_230 hx (y := (⟨"com/example/kolektyv/kolektyv/records/Iso2709ReaderDigitsPinLaw", "term", "([BIII)I"⟩ : MethodName)) hown (mvT hZ (hw _ (List.mem_of_getElem? (i := 17) rfl))) (mvT hZ (hw _ (List.mem_of_getElem? (i := 18) rfl))) (mvT hZ (hw _ (List.mem_of_getElem? (i := 3) rfl))) (mvT hZ (hw _ (List.mem_of_getElem? (i := 19) rfl))) (by decide) (backOf (W := 0) (rm5 l Z a0 hw [] b2 (0 : Int32) z117 z105 ys k1 h17 n0 Z17 V_ys (by decide)) hZ (hw _ (List.mem_of_getElem? (i := 19) rfl)) (hw _ (List.mem_of_getElem? (i := 3) rfl)) (by decide) (by decide)) (g := (mkF m 250 #[.val (.long q0), .second, .val (.int p1), .val (.int p2), .val (.int p3), .val (.ref b2), .val (.int z105), .val (.int z117), .val (.int v230_t0), .unset] [(.int z105), (.int z117), (.int (0 : Int32)), (.ref b2)])) rfl (by rw [hml]; rfl) (argsL := [(.ref b2), (.int (0 : Int32)), (.int z117), (.int z105)]) (rest := []) (lenOf pd_0_3 rfl) rfl (by show 2 * 0 + _ ≤ _; exact Nat.le_of_eq rfl) (hb hby at_250) (fun _ _ => ⟨rfl, e_230, (by decide : (0 + 1) + 0 ≤ _), (by decide : (0 + 8) + 0 ≤ _)⟩)
      dsimp only [Pt.U, Pt.locs, Pt.cells, Pt.slots] at X20 l20 y20 z20 st20 hQ20
      subst l20 y20 z20
      obtain ⟨rfl, rfl, e20⟩ := hQ20
      have X20 : Stand p l e room_1 s m #[(.long q0), (.int p1), (.int p2), (.int p3)] below meth c T20 L17 (0 + 1) (0 + 8) := own_flat X20
      refine own_step (st20) ?_
      show own_Goes p.tables e below (T20.setTop (mkF m 253 #[.val (.long q0), .second, .val (.int p1), .val (.int p2), .val (.int p3), .val (.ref b2), .val (.int z105), .val (.int z117), .val (.int v230_t0), .unset] [(.int (own_f5 ys (0 : Int32) z117 z105))])) _
      refine own_step (fun _ => XS.aload X20.here hx rfl (hb hby at_253) rfl rfl) ?_
      show own_Goes p.tables e below (T20.setTop (mkF m 255 #[.val (.long q0), .second, .val (.int p1), .val (.int p2), .val (.int p3), .val (.ref b2), .val (.int z105), .val (.int z117), .val (.int v230_t0), .unset] [(.ref b2), (.int (own_f5 ys (0 : Int32) z117 z105))])) _
      refine own_step (fun _ => XS.iconst X20.here hx rfl (hb hby at_255)) ?_
      show own_Goes p.tables e below (T20.setTop (mkF m 256 #[.val (.long q0), .second, .val (.int p1), .val (.int p2), .val (.int p3), .val (.ref b2), .val (.int z105), .val (.int z117), .val (.int v230_t0), .unset] [(.int (1 : Int32)), (.ref b2), (.int (own_f5 ys (0 : Int32) z117 z105))])) _
      refine own_step (fun _ => XS.iload X20.here hx rfl (hb hby at_256) rfl) ?_
      show own_Goes p.tables e below (T20.setTop (mkF m 258 #[.val (.long q0), .second, .val (.int p1), .val (.int p2), .val (.int p3), .val (.ref b2), .val (.int z105), .val (.int z117), .val (.int v230_t0), .unset] [(.int z117), (.int (1 : Int32)), (.ref b2), (.int (own_f5 ys (0 : Int32) z117 z105))])) _
      refine own_step (fun _ => XS.iload X20.here hx rfl (hb hby at_258) rfl) ?_
      show own_Goes p.tables e below (T20.setTop (mkF m 260 #[.val (.long q0), .second, .val (.int p1), .val (.int p2), .val (.int p3), .val (.ref b2), .val (.int z105), .val (.int z117), .val (.int v230_t0), .unset] [(.int z105), (.int z117), (.int (1 : Int32)), (.ref b2), (.int (own_f5 ys (0 : Int32) z117 z105))])) _
      obtain ⟨_, _, ⟨T21, L21, k21, n21⟩, -, X21, ⟨Lc21, hQ21, l21, y21, z21⟩, st21⟩ := Jvm.LawKit.callS X20 hx (y := (⟨"com/example/kolektyv/kolektyv/records/Iso2709ReaderDigitsPinLaw", "term", "([BIII)I"⟩ : MethodName)) hown (mvT hZ (hw _ (List.mem_of_getElem? (i := 17) rfl))) (mvT hZ (hw _ (List.mem_of_getElem? (i := 18) rfl))) (mvT hZ (hw _ (List.mem_of_getElem? (i := 3) rfl))) (mvT hZ (hw _ (List.mem_of_getElem? (i := 19) rfl))) (by decide) (backOf (W := 1) (rm5 l Z a0 hw [] b2 (1 : Int32) z117 z105 ys k1 h17 n0 Z17 V_ys (by decide)) hZ (hw _ (List.mem_of_getElem? (i := 19) rfl)) (hw _ (List.mem_of_getElem? (i := 3) rfl)) (by decide) (by decide)) (g := (mkF m 260 #[.val (.long q0), .second, .val (.int p1), .val (.int p2), .val (.int p3), .val (.ref b2), .val (.int z105), .val (.int z117), .val (.int v230_t0), .unset] [(.int z105), (.int z117), (.int (1 : Int32)), (.ref b2), (.int (own_f5 ys (0 : Int32) z117 z105))])) rfl (by rw [hml]; rfl) (argsL := [(.ref b2), (.int (1 : Int32)), (.int z117), (.int z105)]) (rest := [(.int (own_f5 ys (0 : Int32) z117 z105))]) (lenOf pd_0_3 rfl) rfl (by show 2 * 0 + _ ≤ _; exact Nat.le_of_eq rfl) (hb hby at_260) (fun _ _ => ⟨rfl, e20, (by decide : (0 + 1) + 0 ≤ _), (by decide : (0 + 8) + 0 ≤ _)⟩)
      dsimp only [Pt.U, Pt.locs, Pt.cells, Pt.slots] at X21 l21 y21 z21 st21 hQ21
      subst l21 y21 z21
      obtain ⟨rfl, rfl, e21⟩ := hQ21
      have X21 : Stand p l e room_1 s m #[(.long q0), (.int p1), (.int p2), (.int p3)] below meth c T21 L17 (0 + 1) (0 + 8) := own_flat X21
      refine own_step (st21) ?_
      show own_Goes p.tables e below (T21.setTop (mkF m 263 #[.val (.long q0), .second, .val (.int p1), .val (.int p2), .val (.int p3), .val (.ref b2), .val (.int z105), .val (.int z117), .val (.int v230_t0), .unset] [(.int (own_f5 ys (1 : Int32) z117 z105)), (.int (own_f5 ys (0 : Int32) z117 z105))])) _
      refine own_step (fun _ => XS.iadd X21.here hx rfl (hb hby at_263) rfl) ?_
      show own_Goes p.tables e below (T21.setTop (mkF m 264 #[.val (.long q0), .second, .val (.int p1), .val (.int p2), .val (.int p3), .val (.ref b2), .val (.int z105), .val (.int z117), .val (.int v230_t0), .unset] [(.int ((own_f5 ys (0 : Int32) z117 z105) + (own_f5 ys (1 : Int32) z117 z105)))])) _
      refine own_step (fun _ => XS.aload X21.here hx rfl (hb hby at_264) rfl rfl) ?_
      show own_Goes p.tables e below (T21.setTop (mkF m 266 #[.val (.long q0), .second, .val (.int p1), .val (.int p2), .val (.int p3), .val (.ref b2), .val (.int z105), .val (.int z117), .val (.int v230_t0), .unset] [(.ref b2), (.int ((own_f5 ys (0 : Int32) z117 z105) + (own_f5 ys (1 : Int32) z117 z105)))])) _
      refine own_step (fun _ => XS.iconst X21.here hx rfl (hb hby at_266)) ?_
      show own_Goes p.tables e below (T21.setTop (mkF m 267 #[.val (.long q0), .second, .val (.int p1), .val (.int p2), .val (.int p3), .val (.ref b2), .val (.int z105), .val (.int z117), .val (.int v230_t0), .unset] [(.int (2 : Int32)), (.ref b2), (.int ((own_f5 ys (0 : Int32) z117 z105) + (own_f5 ys (1 : Int32) z117 z105)))])) _
      refine own_step (fun _ => XS.iload X21.here hx rfl (hb hby at_267) rfl) ?_
      show own_Goes p.tables e below (T21.setTop (mkF m 269 #[.val (.long q0), .second, .val (.int p1), .val (.int p2), .val (.int p3), .val (.ref b2), .val (.int z105), .val (.int z117), .val (.int v230_t0), .unset] [(.int z117), (.int (2 : Int32)), (.ref b2), (.int ((own_f5 ys (0 : Int32) z117 z105) + (own_f5 ys (1 : Int32) z117 z105)))])) _
      refine own_step (fun _ => XS.iload X21.here hx rfl (hb hby at_269) rfl) ?_
      show own_Goes p.tables e below (T21.setTop (mkF m 271 #[.val (.long q0), .second, .val (.int p1), .val (.int p2), .val (.int p3), .val (.ref b2), .val (.int z105), .val (.int z117), .val (.int v230_t0), .unset] [(.int z105), (.int z117), (.int (2 : Int32)), (.ref b2), (.int ((own_f5 ys (0 : Int32) z117 z105) + (own_f5 ys (1 : Int32) z117 z105)))])) _
      obtain ⟨_, _, ⟨T22, L22, k22, n22⟩, -, X22, ⟨Lc22, hQ22, l22, y22, z22⟩, st22⟩ := Jvm.LawKit.callS X21 hx (y := (⟨"com/example/kolektyv/kolektyv/records/Iso2709ReaderDigitsPinLaw", "term", "([BIII)I"⟩ : MethodName)) hown (mvT hZ (hw _ (List.mem_of_getElem? (i := 17) rfl))) (mvT hZ (hw _ (List.mem_of_getElem? (i := 18) rfl))) (mvT hZ (hw _ (List.mem_of_getElem? (i := 3) rfl))) (mvT hZ (hw _ (List.mem_of_getElem? (i := 19) rfl))) (by decide) (backOf (W := 1) (rm5 l Z a0 hw [] b2 (2 : Int32) z117 z105 ys k1 h17 n0 Z17 V_ys (by decide)) hZ (hw _ (List.mem_of_getElem? (i := 19) rfl)) (hw _ (List.mem_of_getElem? (i := 3) rfl)) (by decide) (by decide)) (g := (mkF m 271 #[.val (.long q0), .second, .val (.int p1), .val (.int p2), .val (.int p3), .val (.ref b2), .val (.int z105), .val (.int z117), .val (.int v230_t0), .unset] [(.int z105), (.int z117), (.int (2 : Int32)), (.ref b2), (.int ((own_f5 ys (0 : Int32) z117 z105) + (own_f5 ys (1 : Int32) z117 z105)))])) rfl (by rw [hml]; rfl) (argsL := [(.ref b2), (.int (2 : Int32)), (.int z117), (.int z105)]) (rest := [(.int ((own_f5 ys (0 : Int32) z117 z105) + (own_f5 ys (1 : Int32) z117 z105)))]) (lenOf pd_0_3 rfl) rfl (by show 2 * 0 + _ ≤ _; exact Nat.le_of_eq rfl) (hb hby at_271) (fun _ _ => ⟨rfl, e21, (by decide : (0 + 1) + 0 ≤ _), (by decide : (0 + 8) + 0 ≤ _)⟩)
      dsimp only [Pt.U, Pt.locs, Pt.cells, Pt.slots] at X22 l22 y22 z22 st22 hQ22
      subst l22 y22 z22
      obtain ⟨rfl, rfl, e22⟩ := hQ22
      have X22 : Stand p l e room_1 s m #[(.long q0), (.int p1), (.int p2), (.int p3)] below meth c T22 L17 (0 + 1) (0 + 8) := own_flat X22
      refine own_step (st22) ?_
      show own_Goes p.tables e below (T22.setTop (mkF m 274 #[.val (.long q0), .second, .val (.int p1), .val (.int p2), .val (.int p3), .val (.ref b2), .val (.int z105), .val (.int z117), .val (.int v230_t0), .unset] [(.int (own_f5 ys (2 : Int32) z117 z105)), (.int ((own_f5 ys (0 : Int32) z117 z105) + (own_f5 ys (1 : Int32) z117 z105)))])) _
      refine own_step (fun _ => XS.iadd X22.here hx rfl (hb hby at_274) rfl) ?_
      show own_Goes p.tables e below (T22.setTop (mkF m 275 #[.val (.long q0), .second, .val (.int p1), .val (.int p2), .val (.int p3), .val (.ref b2), .val (.int z105), .val (.int z117), .val (.int v230_t0), .unset] [(.int (((own_f5 ys (0 : Int32) z117 z105) + (own_f5 ys (1 : Int32) z117 z105)) + (own_f5 ys (2 : Int32) z117 z105)))])) _
      refine own_step (fun _ => XS.aload X22.here hx rfl (hb hby at_275) rfl rfl) ?_
      show own_Goes p.tables e below (T22.setTop (mkF m 277 #[.val (.long q0), .second, .val (.int p1), .val (.int p2), .val (.int p3), .val (.ref b2), .val (.int z105), .val (.int z117), .val (.int v230_t0), .unset] [(.ref b2), (.int (((own_f5 ys (0 : Int32) z117 z105) + (own_f5 ys (1 : Int32) z117 z105)) + (own_f5 ys (2 : Int32) z117 z105)))])) _
      refine own_step (fun _ => XS.iconst X22.here hx rfl (hb hby at_277)) ?_
      show own_Goes p.tables e below (T22.setTop (mkF m 278 #[.val (.long q0), .second, .val (.int p1), .val (.int p2), .val (.int p3), .val (.ref b2), .val (.int z105), .val (.int z117), .val (.int v230_t0), .unset] [(.int (3 : Int32)), (.ref b2), (.int (((own_f5 ys (0 : Int32) z117 z105) + (own_f5 ys (1 : Int32) z117 z105)) + (own_f5 ys (2 : Int32) z117 z105)))])) _
      refine own_step (fun _ => XS.iload X22.here hx rfl (hb hby at_278) rfl) ?_
      show own_Goes p.tables e below (T22.setTop (mkF m 280 #[.val (.long q0), .second, .val (.int p1), .val (.int p2), .val (.int p3), .val (.ref b2), .val (.int z105), .val (.int z117), .val (.int v230_t0), .unset] [(.int z117), (.int (3 : Int32)), (.ref b2), (.int (((own_f5 ys (0 : Int32) z117 z105) + (own_f5 ys (1 : Int32) z117 z105)) + (own_f5 ys (2 : Int32) z117 z105)))])) _
      refine own_step (fun _ => XS.iload X22.here hx rfl (hb hby at_280) rfl) ?_
      show own_Goes p.tables e below (T22.setTop (mkF m 282 #[.val (.long q0), .second, .val (.int p1), .val (.int p2), .val (.int p3), .val (.ref b2), .val (.int z105), .val (.int z117), .val (.int v230_t0), .unset] [(.int z105), (.int z117), (.int (3 : Int32)), (.ref b2), (.int (((own_f5 ys (0 : Int32) z117 z105) + (own_f5 ys (1 : Int32) z117 z105)) + (own_f5 ys (2 : Int32) z117 z105)))])) _
      obtain ⟨_, _, ⟨T23, L23, k23, n23⟩, -, X23, ⟨Lc23, hQ23, l23, y23, z23⟩, st23⟩ := Jvm.LawKit.callS X22 hx (y := (⟨"com/example/kolektyv/kolektyv/records/Iso2709ReaderDigitsPinLaw", "term", "([BIII)I"⟩ : MethodName)) hown (mvT hZ (hw _ (List.mem_of_getElem? (i := 17) rfl))) (mvT hZ (hw _ (List.mem_of_getElem? (i := 18) rfl))) (mvT hZ (hw _ (List.mem_of_getElem? (i := 3) rfl))) (mvT hZ (hw _ (List.mem_of_getElem? (i := 19) rfl))) (by decide) (backOf (W := 1) (rm5 l Z a0 hw [] b2 (3 : Int32) z117 z105 ys k1 h17 n0 Z17 V_ys (by decide)) hZ (hw _ (List.mem_of_getElem? (i := 19) rfl)) (hw _ (List.mem_of_getElem? (i := 3) rfl)) (by decide) (by decide)) (g := (mkF m 282 #[.val (.long q0), .second, .val (.int p1), .val (.int p2), .val (.int p3), .val (.ref b2), .val (.int z105), .val (.int z117), .val (.int v230_t0), .unset] [(.int z105), (.int z117), (.int (3 : Int32)), (.ref b2), (.int (((own_f5 ys (0 : Int32) z117 z105) + (own_f5 ys (1 : Int32) z117 z105)) + (own_f5 ys (2 : Int32) z117 z105)))])) rfl (by rw [hml]; rfl) (argsL := [(.ref b2), (.int (3 : Int32)), (.int z117), (.int z105)]) (rest := [(.int (((own_f5 ys (0 : Int32) z117 z105) + (own_f5 ys (1 : Int32) z117 z105)) + (own_f5 ys (2 : Int32) z117 z105)))]) (lenOf pd_0_3 rfl) rfl (by show 2 * 0 + _ ≤ _; exact Nat.le_of_eq rfl) (hb hby at_282) (fun _ _ => ⟨rfl, e22, (by decide : (0 + 1) + 0 ≤ _), (by decide : (0 + 8) + 0 ≤ _)⟩)
      dsimp only [Pt.U, Pt.locs, Pt.cells, Pt.slots] at X23 l23 y23 z23 st23 hQ23
      subst l23 y23 z23
      obtain ⟨rfl, rfl, e23⟩ := hQ23
      have X23 : Stand p l e room_1 s m #[(.long q0), (.int p1), (.int p2), (.int p3)] below meth c T23 L17 (0 + 1) (0 + 8) := own_flat X23
      refine own_step (st23) ?_
      show own_Goes p.tables e below (T23.setTop (mkF m 285 #[.val (.long q0), .second, .val (.int p1), .val (.int p2), .val (.int p3), .val (.ref b2), .val (.int z105), .val (.int z117), .val (.int v230_t0), .unset] [(.int (own_f5 ys (3 : Int32) z117 z105)), (.int (((own_f5 ys (0 : Int32) z117 z105) + (own_f5 ys (1 : Int32) z117 z105)) + (own_f5 ys (2 : Int32) z117 z105)))])) _
      refine own_step (fun _ => XS.iadd X23.here hx rfl (hb hby at_285) rfl) ?_
      show own_Goes p.tables e below (T23.setTop (mkF m 286 #[.val (.long q0), .second, .val (.int p1), .val (.int p2), .val (.int p3), .val (.ref b2), .val (.int z105), .val (.int z117), .val (.int v230_t0), .unset] [(.int ((((own_f5 ys (0 : Int32) z117 z105) + (own_f5 ys (1 : Int32) z117 z105)) + (own_f5 ys (2 : Int32) z117 z105)) + (own_f5 ys (3 : Int32) z117 z105)))])) _
      refine own_step (fun _ => XS.aload X23.here hx rfl (hb hby at_286) rfl rfl) ?_
      show own_Goes p.tables e below (T23.setTop (mkF m 288 #[.val (.long q0), .second, .val (.int p1), .val (.int p2), .val (.int p3), .val (.ref b2), .val (.int z105), .val (.int z117), .val (.int v230_t0), .unset] [(.ref b2), (.int ((((own_f5 ys (0 : Int32) z117 z105) + (own_f5 ys (1 : Int32) z117 z105)) + (own_f5 ys (2 : Int32) z117 z105)) + (own_f5 ys (3 : Int32) z117 z105)))])) _
      refine own_step (fun _ => XS.iconst X23.here hx rfl (hb hby at_288)) ?_
      show own_Goes p.tables e below (T23.setTop (mkF m 289 #[.val (.long q0), .second, .val (.int p1), .val (.int p2), .val (.int p3), .val (.ref b2), .val (.int z105), .val (.int z117), .val (.int v230_t0), .unset] [(.int (4 : Int32)), (.ref b2), (.int ((((own_f5 ys (0 : Int32) z117 z105) + (own_f5 ys (1 : Int32) z117 z105)) + (own_f5 ys (2 : Int32) z117 z105)) + (own_f5 ys (3 : Int32) z117 z105)))])) _
      refine own_step (fun _ => XS.iload X23.here hx rfl (hb hby at_289) rfl) ?_
      show own_Goes p.tables e below (T23.setTop (mkF m 291 #[.val (.long q0), .second, .val (.int p1), .val (.int p2), .val (.int p3), .val (.ref b2), .val (.int z105), .val (.int z117), .val (.int v230_t0), .unset] [(.int z117), (.int (4 : Int32)), (.ref b2), (.int ((((own_f5 ys (0 : Int32) z117 z105) + (own_f5 ys (1 : Int32) z117 z105)) + (own_f5 ys (2 : Int32) z117 z105)) + (own_f5 ys (3 : Int32) z117 z105)))])) _
      refine own_step (fun _ => XS.iload X23.here hx rfl (hb hby at_291) rfl) ?_
      show own_Goes p.tables e below (T23.setTop (mkF m 293 #[.val (.long q0), .second, .val (.int p1), .val (.int p2), .val (.int p3), .val (.ref b2), .val (.int z105), .val (.int z117), .val (.int v230_t0), .unset] [(.int z105), (.int z117), (.int (4 : Int32)), (.ref b2), (.int ((((own_f5 ys (0 : Int32) z117 z105) + (own_f5 ys (1 : Int32) z117 z105)) + (own_f5 ys (2 : Int32) z117 z105)) + (own_f5 ys (3 : Int32) z117 z105)))])) _
      obtain ⟨_, _, ⟨T24, L24, k24, n24⟩, -, X24, ⟨Lc24, hQ24, l24, y24, z24⟩, st24⟩ := Jvm.LawKit.callS X23 hx (y := (⟨"com/example/kolektyv/kolektyv/records/Iso2709ReaderDigitsPinLaw", "term", "([BIII)I"⟩ : MethodName)) hown (mvT hZ (hw _ (List.mem_of_getElem? (i := 17) rfl))) (mvT hZ (hw _ (List.mem_of_getElem? (i := 18) rfl))) (mvT hZ (hw _ (List.mem_of_getElem? (i := 3) rfl))) (mvT hZ (hw _ (List.mem_of_getElem? (i := 19) rfl))) (by decide) (backOf (W := 1) (rm5 l Z a0 hw [] b2 (4 : Int32) z117 z105 ys k1 h17 n0 Z17 V_ys (by decide)) hZ (hw _ (List.mem_of_getElem? (i := 19) rfl)) (hw _ (List.mem_of_getElem? (i := 3) rfl)) (by decide) (by decide)) (g := (mkF m 293 #[.val (.long q0), .second, .val (.int p1), .val (.int p2), .val (.int p3), .val (.ref b2), .val (.int z105), .val (.int z117), .val (.int v230_t0), .unset] [(.int z105), (.int z117), (.int (4 : Int32)), (.ref b2), (.int ((((own_f5 ys (0 : Int32) z117 z105) + (own_f5 ys (1 : Int32) z117 z105)) + (own_f5 ys (2 : Int32) z117 z105)) + (own_f5 ys (3 : Int32) z117 z105)))])) rfl (by rw [hml]; rfl) (argsL := [(.ref b2), (.int (4 : Int32)), (.int z117), (.int z105)]) (rest := [(.int ((((own_f5 ys (0 : Int32) z117 z105) + (own_f5 ys (1 : Int32) z117 z105)) + (own_f5 ys (2 : Int32) z117 z105)) + (own_f5 ys (3 : Int32) z117 z105)))]) (lenOf pd_0_3 rfl) rfl (by show 2 * 0 + _ ≤ _; exact Nat.le_of_eq rfl) (hb hby at_293) (fun _ _ => ⟨rfl, e23, (by decide : (0 + 1) + 0 ≤ _), (by decide : (0 + 8) + 0 ≤ _)⟩)
      dsimp only [Pt.U, Pt.locs, Pt.cells, Pt.slots] at X24 l24 y24 z24 st24 hQ24
      subst l24 y24 z24
      obtain ⟨rfl, rfl, e24⟩ := hQ24
      have X24 : Stand p l e room_1 s m #[(.long q0), (.int p1), (.int p2), (.int p3)] below meth c T24 L17 (0 + 1) (0 + 8) := own_flat X24
      refine own_step (st24) ?_
      show own_Goes p.tables e below (T24.setTop (mkF m 296 #[.val (.long q0), .second, .val (.int p1), .val (.int p2), .val (.int p3), .val (.ref b2), .val (.int z105), .val (.int z117), .val (.int v230_t0), .unset] [(.int (own_f5 ys (4 : Int32) z117 z105)), (.int ((((own_f5 ys (0 : Int32) z117 z105) + (own_f5 ys (1 : Int32) z117 z105)) + (own_f5 ys (2 : Int32) z117 z105)) + (own_f5 ys (3 : Int32) z117 z105)))])) _
      refine own_step (fun _ => XS.iadd X24.here hx rfl (hb hby at_296) rfl) ?_
      show own_Goes p.tables e below (T24.setTop (mkF m 297 #[.val (.long q0), .second, .val (.int p1), .val (.int p2), .val (.int p3), .val (.ref b2), .val (.int z105), .val (.int z117), .val (.int v230_t0), .unset] [(.int (((((own_f5 ys (0 : Int32) z117 z105) + (own_f5 ys (1 : Int32) z117 z105)) + (own_f5 ys (2 : Int32) z117 z105)) + (own_f5 ys (3 : Int32) z117 z105)) + (own_f5 ys (4 : Int32) z117 z105)))])) _
      refine own_step (fun _ => XS.aload X24.here hx rfl (hb hby at_297) rfl rfl) ?_
      show own_Goes p.tables e below (T24.setTop (mkF m 299 #[.val (.long q0), .second, .val (.int p1), .val (.int p2), .val (.int p3), .val (.ref b2), .val (.int z105), .val (.int z117), .val (.int v230_t0), .unset] [(.ref b2), (.int (((((own_f5 ys (0 : Int32) z117 z105) + (own_f5 ys (1 : Int32) z117 z105)) + (own_f5 ys (2 : Int32) z117 z105)) + (own_f5 ys (3 : Int32) z117 z105)) + (own_f5 ys (4 : Int32) z117 z105)))])) _
      refine own_step (fun _ => XS.iconst X24.here hx rfl (hb hby at_299)) ?_
      show own_Goes p.tables e below (T24.setTop (mkF m 300 #[.val (.long q0), .second, .val (.int p1), .val (.int p2), .val (.int p3), .val (.ref b2), .val (.int z105), .val (.int z117), .val (.int v230_t0), .unset] [(.int (5 : Int32)), (.ref b2), (.int (((((own_f5 ys (0 : Int32) z117 z105) + (own_f5 ys (1 : Int32) z117 z105)) + (own_f5 ys (2 : Int32) z117 z105)) + (own_f5 ys (3 : Int32) z117 z105)) + (own_f5 ys (4 : Int32) z117 z105)))])) _
      refine own_step (fun _ => XS.iload X24.here hx rfl (hb hby at_300) rfl) ?_
      show own_Goes p.tables e below (T24.setTop (mkF m 302 #[.val (.long q0), .second, .val (.int p1), .val (.int p2), .val (.int p3), .val (.ref b2), .val (.int z105), .val (.int z117), .val (.int v230_t0), .unset] [(.int z117), (.int (5 : Int32)), (.ref b2), (.int (((((own_f5 ys (0 : Int32) z117 z105) + (own_f5 ys (1 : Int32) z117 z105)) + (own_f5 ys (2 : Int32) z117 z105)) + (own_f5 ys (3 : Int32) z117 z105)) + (own_f5 ys (4 : Int32) z117 z105)))])) _
      refine own_step (fun _ => XS.iload X24.here hx rfl (hb hby at_302) rfl) ?_
      show own_Goes p.tables e below (T24.setTop (mkF m 304 #[.val (.long q0), .second, .val (.int p1), .val (.int p2), .val (.int p3), .val (.ref b2), .val (.int z105), .val (.int z117), .val (.int v230_t0), .unset] [(.int z105), (.int z117), (.int (5 : Int32)), (.ref b2), (.int (((((own_f5 ys (0 : Int32) z117 z105) + (own_f5 ys (1 : Int32) z117 z105)) + (own_f5 ys (2 : Int32) z117 z105)) + (own_f5 ys (3 : Int32) z117 z105)) + (own_f5 ys (4 : Int32) z117 z105)))])) _
      obtain ⟨_, _, ⟨T25, L25, k25, n25⟩, -, X25, ⟨Lc25, hQ25, l25, y25, z25⟩, st25⟩ := Jvm.LawKit.callS X24 hx (y := (⟨"com/example/kolektyv/kolektyv/records/Iso2709ReaderDigitsPinLaw", "term", "([BIII)I"⟩ : MethodName)) hown (mvT hZ (hw _ (List.mem_of_getElem? (i := 17) rfl))) (mvT hZ (hw _ (List.mem_of_getElem? (i := 18) rfl))) (mvT hZ (hw _ (List.mem_of_getElem? (i := 3) rfl))) (mvT hZ (hw _ (List.mem_of_getElem? (i := 19) rfl))) (by decide) (backOf (W := 1) (rm5 l Z a0 hw [] b2 (5 : Int32) z117 z105 ys k1 h17 n0 Z17 V_ys (by decide)) hZ (hw _ (List.mem_of_getElem? (i := 19) rfl)) (hw _ (List.mem_of_getElem? (i := 3) rfl)) (by decide) (by decide)) (g := (mkF m 304 #[.val (.long q0), .second, .val (.int p1), .val (.int p2), .val (.int p3), .val (.ref b2), .val (.int z105), .val (.int z117), .val (.int v230_t0), .unset] [(.int z105), (.int z117), (.int (5 : Int32)), (.ref b2), (.int (((((own_f5 ys (0 : Int32) z117 z105) + (own_f5 ys (1 : Int32) z117 z105)) + (own_f5 ys (2 : Int32) z117 z105)) + (own_f5 ys (3 : Int32) z117 z105)) + (own_f5 ys (4 : Int32) z117 z105)))])) rfl (by rw [hml]; rfl) (argsL := [(.ref b2), (.int (5 : Int32)), (.int z117), (.int z105)]) (rest := [(.int (((((own_f5 ys (0 : Int32) z117 z105) + (own_f5 ys (1 : Int32) z117 z105)) + (own_f5 ys (2 : Int32) z117 z105)) + (own_f5 ys (3 : Int32) z117 z105)) + (own_f5 ys (4 : Int32) z117 z105)))]) (lenOf pd_0_3 rfl) rfl (by show 2 * 0 + _ ≤ _; exact Nat.le_of_eq rfl) (hb hby at_304) (fun _ _ => ⟨rfl, e24, (by decide : (0 + 1) + 0 ≤ _), (by decide : (0 + 8) + 0 ≤ _)⟩)
      dsimp only [Pt.U, Pt.locs, Pt.cells, Pt.slots] at X25 l25 y25 z25 st25 hQ25
      subst l25 y25 z25
      obtain ⟨rfl, rfl, e25⟩ := hQ25
      have X25 : Stand p l e room_1 s m #[(.long q0), (.int p1), (.int p2), (.int p3)] below meth c T25 L17 (0 + 1) (0 + 8) := own_flat X25
      refine own_step (st25) ?_
      show own_Goes p.tables e below (T25.setTop (mkF m 307 #[.val (.long q0), .second, .val (.int p1), .val (.int p2), .val (.int p3), .val (.ref b2), .val (.int z105), .val (.int z117), .val (.int v230_t0), .unset] [(.int (own_f5 ys (5 : Int32) z117 z105)), (.int (((((own_f5 ys (0 : Int32) z117 z105) + (own_f5 ys (1 : Int32) z117 z105)) + (own_f5 ys (2 : Int32) z117 z105)) + (own_f5 ys (3 : Int32) z117 z105)) + (own_f5 ys (4 : Int32) z117 z105)))])) _
      refine own_step (fun _ => XS.iadd X25.here hx rfl (hb hby at_307) rfl) ?_
      show own_Goes p.tables e below (T25.setTop (mkF m 308 #[.val (.long q0), .second, .val (.int p1), .val (.int p2), .val (.int p3), .val (.ref b2), .val (.int z105), .val (.int z117), .val (.int v230_t0), .unset] [(.int ((((((own_f5 ys (0 : Int32) z117 z105) + (own_f5 ys (1 : Int32) z117 z105)) + (own_f5 ys (2 : Int32) z117 z105)) + (own_f5 ys (3 : Int32) z117 z105)) + (own_f5 ys (4 : Int32) z117 z105)) + (own_f5 ys (5 : Int32) z117 z105)))])) _
      refine own_step (fun _ => XS.aload X25.here hx rfl (hb hby at_308) rfl rfl) ?_
      show own_Goes p.tables e below (T25.setTop (mkF m 310 #[.val (.long q0), .second, .val (.int p1), .val (.int p2), .val (.int p3), .val (.ref b2), .val (.int z105), .val (.int z117), .val (.int v230_t0), .unset] [(.ref b2), (.int ((((((own_f5 ys (0 : Int32) z117 z105) + (own_f5 ys (1 : Int32) z117 z105)) + (own_f5 ys (2 : Int32) z117 z105)) + (own_f5 ys (3 : Int32) z117 z105)) + (own_f5 ys (4 : Int32) z117 z105)) + (own_f5 ys (5 : Int32) z117 z105)))])) _
      refine own_step (fun _ => XS.bipush X25.here hx rfl (hb hby at_310)) ?_
      show own_Goes p.tables e below (T25.setTop (mkF m 312 #[.val (.long q0), .second, .val (.int p1), .val (.int p2), .val (.int p3), .val (.ref b2), .val (.int z105), .val (.int z117), .val (.int v230_t0), .unset] [(.int (6 : Int32)), (.ref b2), (.int ((((((own_f5 ys (0 : Int32) z117 z105) + (own_f5 ys (1 : Int32) z117 z105)) + (own_f5 ys (2 : Int32) z117 z105)) + (own_f5 ys (3 : Int32) z117 z105)) + (own_f5 ys (4 : Int32) z117 z105)) + (own_f5 ys (5 : Int32) z117 z105)))])) _
      refine own_step (fun _ => XS.iload X25.here hx rfl (hb hby at_312) rfl) ?_
      show own_Goes p.tables e below (T25.setTop (mkF m 314 #[.val (.long q0), .second, .val (.int p1), .val (.int p2), .val (.int p3), .val (.ref b2), .val (.int z105), .val (.int z117), .val (.int v230_t0), .unset] [(.int z117), (.int (6 : Int32)), (.ref b2), (.int ((((((own_f5 ys (0 : Int32) z117 z105) + (own_f5 ys (1 : Int32) z117 z105)) + (own_f5 ys (2 : Int32) z117 z105)) + (own_f5 ys (3 : Int32) z117 z105)) + (own_f5 ys (4 : Int32) z117 z105)) + (own_f5 ys (5 : Int32) z117 z105)))])) _
      refine own_step (fun _ => XS.iload X25.here hx rfl (hb hby at_314) rfl) ?_
      show own_Goes p.tables e below (T25.setTop (mkF m 316 #[.val (.long q0), .second, .val (.int p1), .val (.int p2), .val (.int p3), .val (.ref b2), .val (.int z105), .val (.int z117), .val (.int v230_t0), .unset] [(.int z105), (.int z117), (.int (6 : Int32)), (.ref b2), (.int ((((((own_f5 ys (0 : Int32) z117 z105) + (own_f5 ys (1 : Int32) z117 z105)) + (own_f5 ys (2 : Int32) z117 z105)) + (own_f5 ys (3 : Int32) z117 z105)) + (own_f5 ys (4 : Int32) z117 z105)) + (own_f5 ys (5 : Int32) z117 z105)))])) _
      obtain ⟨_, _, ⟨T26, L26, k26, n26⟩, -, X26, ⟨Lc26, hQ26, l26, y26, z26⟩, st26⟩ := Jvm.LawKit.callS X25 hx (y := (⟨"com/example/kolektyv/kolektyv/records/Iso2709ReaderDigitsPinLaw", "term", "([BIII)I"⟩ : MethodName)) hown (mvT hZ (hw _ (List.mem_of_getElem? (i := 17) rfl))) (mvT hZ (hw _ (List.mem_of_getElem? (i := 18) rfl))) (mvT hZ (hw _ (List.mem_of_getElem? (i := 3) rfl))) (mvT hZ (hw _ (List.mem_of_getElem? (i := 19) rfl))) (by decide) (backOf (W := 1) (rm5 l Z a0 hw [] b2 (6 : Int32) z117 z105 ys k1 h17 n0 Z17 V_ys (by decide)) hZ (hw _ (List.mem_of_getElem? (i := 19) rfl)) (hw _ (List.mem_of_getElem? (i := 3) rfl)) (by decide) (by decide)) (g := (mkF m 316 #[.val (.long q0), .second, .val (.int p1), .val (.int p2), .val (.int p3), .val (.ref b2), .val (.int z105), .val (.int z117), .val (.int v230_t0), .unset] [(.int z105), (.int z117), (.int (6 : Int32)), (.ref b2), (.int ((((((own_f5 ys (0 : Int32) z117 z105) + (own_f5 ys (1 : Int32) z117 z105)) + (own_f5 ys (2 : Int32) z117 z105)) + (own_f5 ys (3 : Int32) z117 z105)) + (own_f5 ys (4 : Int32) z117 z105)) + (own_f5 ys (5 : Int32) z117 z105)))])) rfl (by rw [hml]; rfl) (argsL := [(.ref b2), (.int (6 : Int32)), (.int z117), (.int z105)]) (rest := [(.int ((((((own_f5 ys (0 : Int32) z117 z105) + (own_f5 ys (1 : Int32) z117 z105)) + (own_f5 ys (2 : Int32) z117 z105)) + (own_f5 ys (3 : Int32) z117 z105)) + (own_f5 ys (4 : Int32) z117 z105)) + (own_f5 ys (5 : Int32) z117 z105)))]) (lenOf pd_0_3 rfl) rfl (by show 2 * 0 + _ ≤ _; exact Nat.le_of_eq rfl) (hb hby at_316) (fun _ _ => ⟨rfl, e25, (by decide : (0 + 1) + 0 ≤ _), (by decide : (0 + 8) + 0 ≤ _)⟩)
      dsimp only [Pt.U, Pt.locs, Pt.cells, Pt.slots] at X26 l26 y26 z26 st26 hQ26
      subst l26 y26 z26
      obtain ⟨rfl, rfl, e26⟩ := hQ26
      have X26 : Stand p l e room_1 s m #[(.long q0), (.int p1), (.int p2), (.int p3)] below meth c T26 L17 (0 + 1) (0 + 8) := own_flat X26
      refine own_step (st26) ?_
      show own_Goes p.tables e below (T26.setTop (mkF m 319 #[.val (.long q0), .second, .val (.int p1), .val (.int p2), .val (.int p3), .val (.ref b2), .val (.int z105), .val (.int z117), .val (.int v230_t0), .unset] [(.int (own_f5 ys (6 : Int32) z117 z105)), (.int ((((((own_f5 ys (0 : Int32) z117 z105) + (own_f5 ys (1 : Int32) z117 z105)) + (own_f5 ys (2 : Int32) z117 z105)) + (own_f5 ys (3 : Int32) z117 z105)) + (own_f5 ys (4 : Int32) z117 z105)) + (own_f5 ys (5 : Int32) z117 z105)))])) _
      refine own_step (fun _ => XS.iadd X26.here hx rfl (hb hby at_319) rfl) ?_
      show own_Goes p.tables e below (T26.setTop (mkF m 320 #[.val (.long q0), .second, .val (.int p1), .val (.int p2), .val (.int p3), .val (.ref b2), .val (.int z105), .val (.int z117), .val (.int v230_t0), .unset] [(.int (((((((own_f5 ys (0 : Int32) z117 z105) + (own_f5 ys (1 : Int32) z117 z105)) + (own_f5 ys (2 : Int32) z117 z105)) + (own_f5 ys (3 : Int32) z117 z105)) + (own_f5 ys (4 : Int32) z117 z105)) + (own_f5 ys (5 : Int32) z117 z105)) + (own_f5 ys (6 : Int32) z117 z105)))])) _
      refine own_step (fun _ => XS.aload X26.here hx rfl (hb hby at_320) rfl rfl) ?_
      show own_Goes p.tables e below (T26.setTop (mkF m 322 #[.val (.long q0), .second, .val (.int p1), .val (.int p2), .val (.int p3), .val (.ref b2), .val (.int z105), .val (.int z117), .val (.int v230_t0), .unset] [(.ref b2), (.int (((((((own_f5 ys (0 : Int32) z117 z105) + (own_f5 ys (1 : Int32) z117 z105)) + (own_f5 ys (2 : Int32) z117 z105)) + (own_f5 ys (3 : Int32) z117 z105)) + (own_f5 ys (4 : Int32) z117 z105)) + (own_f5 ys (5 : Int32) z117 z105)) + (own_f5 ys (6 : Int32) z117 z105)))])) _
      refine own_step (fun _ => XS.bipush X26.here hx rfl (hb hby at_322)) ?_
      show own_Goes p.tables e below (T26.setTop (mkF m 324 #[.val (.long q0), .second, .val (.int p1), .val (.int p2), .val (.int p3), .val (.ref b2), .val (.int z105), .val (.int z117), .val (.int v230_t0), .unset] [(.int (7 : Int32)), (.ref b2), (.int (((((((own_f5 ys (0 : Int32) z117 z105) + (own_f5 ys (1 : Int32) z117 z105)) + (own_f5 ys (2 : Int32) z117 z105)) + (own_f5 ys (3 : Int32) z117 z105)) + (own_f5 ys (4 : Int32) z117 z105)) + (own_f5 ys (5 : Int32) z117 z105)) + (own_f5 ys (6 : Int32) z117 z105)))])) _
      refine own_step (fun _ => XS.iload X26.here hx rfl (hb hby at_324) rfl) ?_
      show own_Goes p.tables e below (T26.setTop (mkF m 326 #[.val (.long q0), .second, .val (.int p1), .val (.int p2), .val (.int p3), .val (.ref b2), .val (.int z105), .val (.int z117), .val (.int v230_t0), .unset] [(.int z117), (.int (7 : Int32)), (.ref b2), (.int (((((((own_f5 ys (0 : Int32) z117 z105) + (own_f5 ys (1 : Int32) z117 z105)) + (own_f5 ys (2 : Int32) z117 z105)) + (own_f5 ys (3 : Int32) z117 z105)) + (own_f5 ys (4 : Int32) z117 z105)) + (own_f5 ys (5 : Int32) z117 z105)) + (own_f5 ys (6 : Int32) z117 z105)))])) _
      refine own_step (fun _ => XS.iload X26.here hx rfl (hb hby at_326) rfl) ?_
      show own_Goes p.tables e below (T26.setTop (mkF m 328 #[.val (.long q0), .second, .val (.int p1), .val (.int p2), .val (.int p3), .val (.ref b2), .val (.int z105), .val (.int z117), .val (.int v230_t0), .unset] [(.int z105), (.int z117), (.int (7 : Int32)), (.ref b2), (.int (((((((own_f5 ys (0 : Int32) z117 z105) + (own_f5 ys (1 : Int32) z117 z105)) + (own_f5 ys (2 : Int32) z117 z105)) + (own_f5 ys (3 : Int32) z117 z105)) + (own_f5 ys (4 : Int32) z117 z105)) + (own_f5 ys (5 : Int32) z117 z105)) + (own_f5 ys (6 : Int32) z117 z105)))])) _
      obtain ⟨_, _, ⟨T27, L27, k27, n27⟩, -, X27, ⟨Lc27, hQ27, l27, y27, z27⟩, st27⟩ := Jvm.LawKit.callS X26 hx (y := (⟨"com/example/kolektyv/kolektyv/records/Iso2709ReaderDigitsPinLaw", "term", "([BIII)I"⟩ : MethodName)) hown (mvT hZ (hw _ (List.mem_of_getElem? (i := 17) rfl))) (mvT hZ (hw _ (List.mem_of_getElem? (i := 18) rfl))) (mvT hZ (hw _ (List.mem_of_getElem? (i := 3) rfl))) (mvT hZ (hw _ (List.mem_of_getElem? (i := 19) rfl))) (by decide) (backOf (W := 1) (rm5 l Z a0 hw [] b2 (7 : Int32) z117 z105 ys k1 h17 n0 Z17 V_ys (by decide)) hZ (hw _ (List.mem_of_getElem? (i := 19) rfl)) (hw _ (List.mem_of_getElem? (i := 3) rfl)) (by decide) (by decide)) (g := (mkF m 328 #[.val (.long q0), .second, .val (.int p1), .val (.int p2), .val (.int p3), .val (.ref b2), .val (.int z105), .val (.int z117), .val (.int v230_t0), .unset] [(.int z105), (.int z117), (.int (7 : Int32)), (.ref b2), (.int (((((((own_f5 ys (0 : Int32) z117 z105) + (own_f5 ys (1 : Int32) z117 z105)) + (own_f5 ys (2 : Int32) z117 z105)) + (own_f5 ys (3 : Int32) z117 z105)) + (own_f5 ys (4 : Int32) z117 z105)) + (own_f5 ys (5 : Int32) z117 z105)) + (own_f5 ys (6 : Int32) z117 z105)))])) rfl (by rw [hml]; rfl) (argsL := [(.ref b2), (.int (7 : Int32)), (.int z117), (.int z105)]) (rest := [(.int (((((((own_f5 ys (0 : Int32) z117 z105) + (own_f5 ys (1 : Int32) z117 z105)) + (own_f5 ys (2 : Int32) z117 z105)) + (own_f5 ys (3 : Int32) z117 z105)) + (own_f5 ys (4 : Int32) z117 z105)) + (own_f5 ys (5 : Int32) z117 z105)) + (own_f5 ys (6 : Int32) z117 z105)))]) (lenOf pd_0_3 rfl) rfl (by show 2 * 0 + _ ≤ _; exact Nat.le_of_eq rfl) (hb hby at_328) (fun _ _ => ⟨rfl, e26, (by decide : (0 + 1) + 0 ≤ _), (by decide : (0 + 8) + 0 ≤ _)⟩)
      dsimp only [Pt.U, Pt.locs, Pt.cells, Pt.slots] at X27 l27 y27 z27 st27 hQ27
      subst l27 y27 z27
      obtain ⟨rfl, rfl, e27⟩ := hQ27
      have X27 : Stand p l e room_1 s m #[(.long q0), (.int p1), (.int p2), (.int p3)] below meth c T27 L17 (0 + 1) (0 + 8) := own_flat X27
      refine own_step (st27) ?_
      show own_Goes p.tables e below (T27.setTop (mkF m 331 #[.val (.long q0), .second, .val (.int p1), .val (.int p2), .val (.int p3), .val (.ref b2), .val (.int z105), .val (.int z117), .val (.int v230_t0), .unset] [(.int (own_f5 ys (7 : Int32) z117 z105)), (.int (((((((own_f5 ys (0 : Int32) z117 z105) + (own_f5 ys (1 : Int32) z117 z105)) + (own_f5 ys (2 : Int32) z117 z105)) + (own_f5 ys (3 : Int32) z117 z105)) + (own_f5 ys (4 : Int32) z117 z105)) + (own_f5 ys (5 : Int32) z117 z105)) + (own_f5 ys (6 : Int32) z117 z105)))])) _
      refine own_step (fun _ => XS.iadd X27.here hx rfl (hb hby at_331) rfl) ?_
      show own_Goes p.tables e below (T27.setTop (mkF m 332 #[.val (.long q0), .second, .val (.int p1), .val (.int p2), .val (.int p3), .val (.ref b2), .val (.int z105), .val (.int z117), .val (.int v230_t0), .unset] [(.int ((((((((own_f5 ys (0 : Int32) z117 z105) + (own_f5 ys (1 : Int32) z117 z105)) + (own_f5 ys (2 : Int32) z117 z105)) + (own_f5 ys (3 : Int32) z117 z105)) + (own_f5 ys (4 : Int32) z117 z105)) + (own_f5 ys (5 : Int32) z117 z105)) + (own_f5 ys (6 : Int32) z117 z105)) + (own_f5 ys (7 : Int32) z117 z105)))])) _
      obtain ⟨z332, hz332⟩ : ∃ z : Int32, z = ((((((((own_f5 ys (0 : Int32) z117 z105) + (own_f5 ys (1 : Int32) z117 z105)) + (own_f5 ys (2 : Int32) z117 z105)) + (own_f5 ys (3 : Int32) z117 z105)) + (own_f5 ys (4 : Int32) z117 z105)) + (own_f5 ys (5 : Int32) z117 z105)) + (own_f5 ys (6 : Int32) z117 z105)) + (own_f5 ys (7 : Int32) z117 z105)) := ⟨_, rfl⟩
      refine own_step (fun _ => XS.istore X27.here hx rfl (hb hby at_332) rfl (l' := #[.val (.long q0), .second, .val (.int p1), .val (.int p2), .val (.int p3), .val (.ref b2), .val (.int z105), .val (.int z117), .val (.int v230_t0), .val (.int z332)]) (by subst hz332; rfl)) ?_
      show own_Goes p.tables e below (T27.setTop (mkF m 334 #[.val (.long q0), .second, .val (.int p1), .val (.int p2), .val (.int p3), .val (.ref b2), .val (.int z105), .val (.int z117), .val (.int v230_t0), .val (.int z332)] [])) _
      have hv : (own_f0_230 ys z105 z117 v230_t0) = (own_f0_334 ys z105 z117 z332) := by subst hz332; exact (if_neg hc234)
      rw [hv]
      exact J334 T27 X27 e27 z332
  have J229 : ∀ (T_229 : State) (X_229 : Stand p l e room_1 s m #[(.long q0), (.int p1), (.int p2), (.int p3)] below meth c T_229 L17 (0 + 1) (0 + 8)) (e_229 : T_229.heap = h17), own_Goes p.tables e below (T_229.setTop (mkF m 229 #[.val (.long q0), .second, .val (.int p1), .val (.int p2), .val (.int p3), .val (.ref b2), .val (.int z105), .val (.int z117), .unset, .unset] [])) (own_P s (own_Ql (some (.int (own_f0_229 ys z105 z117))) n0) 1 8) := by
    intro T_229 X_229 e_229
    refine own_step (fun _ => XS.iconst X_229.here hx rfl (hb hby at_229)) ?_
    show own_Goes p.tables e below (T_229.setTop (mkF m 230 #[.val (.long q0), .second, .val (.int p1), .val (.int p2), .val (.int p3), .val (.ref b2), .val (.int z105), .val (.int z117), .unset, .unset] [(.int (0 : Int32))])) _
    have hv : (own_f0_229 ys z105 z117) = (own_f0_230 ys z105 z117 (0 : Int32)) := by exact rfl
    rw [hv]
    exact J230 T_229 X_229 e_229 (0 : Int32)
  by_cases hc129 : (own_f2 ys (0 : Int32) z117 z105) = 0
  · refine own_step (fun _ => XS.ifYes X18.here hx rfl (pc0 := 129) (pc' := 229) rfl (hb hby at_129) rfl (Jvm.Free.XT.i0_eq_t hc129) (by decide) (by decide)) ?_
    show own_Goes p.tables e below (T18.setTop (mkF m 229 #[.val (.long q0), .second, .val (.int p1), .val (.int p2), .val (.int p3), .val (.ref b2), .val (.int z105), .val (.int z117), .unset, .unset] [])) _
    have hv : (own_f0 q0 p1 p2 p3) = (own_f0_229 ys z105 z117) := by subst hz117; subst hz105; subst hys; exact (if_pos hc129)
    rw [hv]
    exact J229 T18 X18 e18
  · refine own_step (fun _ => XS.ifNo X18.here hx rfl (hb hby at_129) rfl (Jvm.Free.XT.i0_eq_f hc129)) ?_
    show own_Goes p.tables e below (T18.setTop (mkF m 132 #[.val (.long q0), .second, .val (.int p1), .val (.int p2), .val (.int p3), .val (.ref b2), .val (.int z105), .val (.int z117), .unset, .unset] [])) _
    refine own_step (fun _ => XS.aload X18.here hx rfl (hb hby at_132) rfl rfl) ?_
    show own_Goes p.tables e below (T18.setTop (mkF m 134 #[.val (.long q0), .second, .val (.int p1), .val (.int p2), .val (.int p3), .val (.ref b2), .val (.int z105), .val (.int z117), .unset, .unset] [(.ref b2)])) _
    refine own_step (fun _ => XS.iconst X18.here hx rfl (hb hby at_134)) ?_
    show own_Goes p.tables e below (T18.setTop (mkF m 135 #[.val (.long q0), .second, .val (.int p1), .val (.int p2), .val (.int p3), .val (.ref b2), .val (.int z105), .val (.int z117), .unset, .unset] [(.int (1 : Int32)), (.ref b2)])) _
    refine own_step (fun _ => XS.iload X18.here hx rfl (hb hby at_135) rfl) ?_
    show own_Goes p.tables e below (T18.setTop (mkF m 137 #[.val (.long q0), .second, .val (.int p1), .val (.int p2), .val (.int p3), .val (.ref b2), .val (.int z105), .val (.int z117), .unset, .unset] [(.int z117), (.int (1 : Int32)), (.ref b2)])) _
    refine own_step (fun _ => XS.iload X18.here hx rfl (hb hby at_137) rfl) ?_
    show own_Goes p.tables e below (T18.setTop (mkF m 139 #[.val (.long q0), .second, .val (.int p1), .val (.int p2), .val (.int p3), .val (.ref b2), .val (.int z105), .val (.int z117), .unset, .unset] [(.int z105), (.int z117), (.int (1 : Int32)), (.ref b2)])) _
    obtain ⟨_, _, ⟨T28, L28, k28, n28⟩, -, X28, ⟨Lc28, hQ28, l28, y28, z28⟩, st28⟩ := Jvm.LawKit.callS X18 hx (y := (⟨"com/example/kolektyv/kolektyv/records/Iso2709ReaderDigitsPinLaw", "ok", "([BIII)Z"⟩ : MethodName)) hown (mvT hZ (hw _ (List.mem_of_getElem? (i := 7) rfl))) (mvT hZ (hw _ (List.mem_of_getElem? (i := 8) rfl))) (mvT hZ (hw _ (List.mem_of_getElem? (i := 3) rfl))) (mvT hZ (hw _ (List.mem_of_getElem? (i := 9) rfl))) (by decide) (backOf (W := 0) (rm2 l Z a0 hw [] b2 (1 : Int32) z117 z105 ys k1 h17 n0 Z17 V_ys (by decide)) hZ (hw _ (List.mem_of_getElem? (i := 9) rfl)) (hw _ (List.mem_of_getElem? (i := 3) rfl)) (by decide) (by decide)) (g := (mkF m 139 #[.val (.long q0), .second, .val (.int p1), .val (.int p2), .val (.int p3), .val (.ref b2), .val (.int z105), .val (.int z117), .unset, .unset] [(.int z105), (.int z117), (.int (1 : Int32)), (.ref b2)])) rfl (by rw [hml]; rfl) (argsL := [(.ref b2), (.int (1 : Int32)), (.int z117), (.int z105)]) (rest := []) (lenOf pd_0_1 rfl) rfl (by show 2 * 0 + _ ≤ _; exact Nat.le_of_eq rfl) (hb hby at_139) (fun _ _ => ⟨rfl, e18, (by decide : (0 + 1) + 0 ≤ _), (by decide : (0 + 8) + 0 ≤ _)⟩)
    dsimp only [Pt.U, Pt.locs, Pt.cells, Pt.slots] at X28 l28 y28 z28 st28 hQ28
    subst l28 y28 z28
    obtain ⟨rfl, rfl, e28⟩ := hQ28
    have X28 : Stand p l e room_1 s m #[(.long q0), (.int p1), (.int p2), (.int p3)] below meth c T28 L17 (0 + 1) (0 + 8) := own_flat X28
    refine own_step (st28) ?_
    show own_Goes p.tables e below (T28.setTop (mkF m 142 #[.val (.long q0), .second, .val (.int p1), .val (.int p2), .val (.int p3), .val (.ref b2), .val (.int z105), .val (.int z117), .unset, .unset] [(.int (own_f2 ys (1 : Int32) z117 z105))])) _
    by_cases hc142 : (own_f2 ys (1 : Int32) z117 z105) = 0
    · refine own_step (fun _ => XS.ifYes X28.here hx rfl (pc0 := 142) (pc' := 229) rfl (hb hby at_142) rfl (Jvm.Free.XT.i0_eq_t hc142) (by decide) (by decide)) ?_
      show own_Goes p.tables e below (T28.setTop (mkF m 229 #[.val (.long q0), .second, .val (.int p1), .val (.int p2), .val (.int p3), .val (.ref b2), .val (.int z105), .val (.int z117), .unset, .unset] [])) _
      have hv : (own_f0 q0 p1 p2 p3) = (own_f0_229 ys z105 z117) := by subst hz117; subst hz105; subst hys; exact ((if_neg hc129)).trans (if_pos hc142)
      rw [hv]
      exact J229 T28 X28 e28
    · refine own_step (fun _ => XS.ifNo X28.here hx rfl (hb hby at_142) rfl (Jvm.Free.XT.i0_eq_f hc142)) ?_
      show own_Goes p.tables e below (T28.setTop (mkF m 145 #[.val (.long q0), .second, .val (.int p1), .val (.int p2), .val (.int p3), .val (.ref b2), .val (.int z105), .val (.int z117), .unset, .unset] [])) _
      refine own_step (fun _ => XS.aload X28.here hx rfl (hb hby at_145) rfl rfl) ?_
      show own_Goes p.tables e below (T28.setTop (mkF m 147 #[.val (.long q0), .second, .val (.int p1), .val (.int p2), .val (.int p3), .val (.ref b2), .val (.int z105), .val (.int z117), .unset, .unset] [(.ref b2)])) _
      refine own_step (fun _ => XS.iconst X28.here hx rfl (hb hby at_147)) ?_
      show own_Goes p.tables e below (T28.setTop (mkF m 148 #[.val (.long q0), .second, .val (.int p1), .val (.int p2), .val (.int p3), .val (.ref b2), .val (.int z105), .val (.int z117), .unset, .unset] [(.int (2 : Int32)), (.ref b2)])) _
      refine own_step (fun _ => XS.iload X28.here hx rfl (hb hby at_148) rfl) ?_
      show own_Goes p.tables e below (T28.setTop (mkF m 150 #[.val (.long q0), .second, .val (.int p1), .val (.int p2), .val (.int p3), .val (.ref b2), .val (.int z105), .val (.int z117), .unset, .unset] [(.int z117), (.int (2 : Int32)), (.ref b2)])) _
      refine own_step (fun _ => XS.iload X28.here hx rfl (hb hby at_150) rfl) ?_
      show own_Goes p.tables e below (T28.setTop (mkF m 152 #[.val (.long q0), .second, .val (.int p1), .val (.int p2), .val (.int p3), .val (.ref b2), .val (.int z105), .val (.int z117), .unset, .unset] [(.int z105), (.int z117), (.int (2 : Int32)), (.ref b2)])) _
      obtain ⟨_, _, ⟨T29, L29, k29, n29⟩, -, X29, ⟨Lc29, hQ29, l29, y29, z29⟩, st29⟩ := Jvm.LawKit.callS X28 hx (y := (⟨"com/example/kolektyv/kolektyv/records/Iso2709ReaderDigitsPinLaw", "ok", "([BIII)Z"⟩ : MethodName)) hown (mvT hZ (hw _ (List.mem_of_getElem? (i := 7) rfl))) (mvT hZ (hw _ (List.mem_of_getElem? (i := 8) rfl))) (mvT hZ (hw _ (List.mem_of_getElem? (i := 3) rfl))) (mvT hZ (hw _ (List.mem_of_getElem? (i := 9) rfl))) (by decide) (backOf (W := 0) (rm2 l Z a0 hw [] b2 (2 : Int32) z117 z105 ys k1 h17 n0 Z17 V_ys (by decide)) hZ (hw _ (List.mem_of_getElem? (i := 9) rfl)) (hw _ (List.mem_of_getElem? (i := 3) rfl)) (by decide) (by decide)) (g := (mkF m 152 #[.val (.long q0), .second, .val (.int p1), .val (.int p2), .val (.int p3), .val (.ref b2), .val (.int z105), .val (.int z117), .unset, .unset] [(.int z105), (.int z117), (.int (2 : Int32)), (.ref b2)])) rfl (by rw [hml]; rfl) (argsL := [(.ref b2), (.int (2 : Int32)), (.int z117), (.int z105)]) (rest := []) (lenOf pd_0_1 rfl) rfl (by show 2 * 0 + _ ≤ _; exact Nat.le_of_eq rfl) (hb hby at_152) (fun _ _ => ⟨rfl, e28, (by decide : (0 + 1) + 0 ≤ _), (by decide : (0 + 8) + 0 ≤ _)⟩)
      dsimp only [Pt.U, Pt.locs, Pt.cells, Pt.slots] at X29 l29 y29 z29 st29 hQ29
      subst l29 y29 z29
      obtain ⟨rfl, rfl, e29⟩ := hQ29
      have X29 : Stand p l e room_1 s m #[(.long q0), (.int p1), (.int p2), (.int p3)] below meth c T29 L17 (0 + 1) (0 + 8) := own_flat X29
      refine own_step (st29) ?_
      show own_Goes p.tables e below (T29.setTop (mkF m 155 #[.val (.long q0), .second, .val (.int p1), .val (.int p2), .val (.int p3), .val (.ref b2), .val (.int z105), .val (.int z117), .unset, .unset] [(.int (own_f2 ys (2 : Int32) z117 z105))])) _
      by_cases hc155 : (own_f2 ys (2 : Int32) z117 z105) = 0
      · refine own_step (fun _ => XS.ifYes X29.here hx rfl (pc0 := 155) (pc' := 229) rfl (hb hby at_155) rfl (Jvm.Free.XT.i0_eq_t hc155) (by decide) (by decide)) ?_
        show own_Goes p.tables e below (T29.setTop (mkF m 229 #[.val (.long q0), .second, .val (.int p1), .val (.int p2), .val (.int p3), .val (.ref b2), .val (.int z105), .val (.int z117), .unset, .unset] [])) _
        have hv : (own_f0 q0 p1 p2 p3) = (own_f0_229 ys z105 z117) := by subst hz117; subst hz105; subst hys; exact (((if_neg hc129)).trans (if_neg hc142)).trans (if_pos hc155)
        rw [hv]
        exact J229 T29 X29 e29
      · refine own_step (fun _ => XS.ifNo X29.here hx rfl (hb hby at_155) rfl (Jvm.Free.XT.i0_eq_f hc155)) ?_
        show own_Goes p.tables e below (T29.setTop (mkF m 158 #[.val (.long q0), .second, .val (.int p1), .val (.int p2), .val (.int p3), .val (.ref b2), .val (.int z105), .val (.int z117), .unset, .unset] [])) _
        refine own_step (fun _ => XS.aload X29.here hx rfl (hb hby at_158) rfl rfl) ?_
        show own_Goes p.tables e below (T29.setTop (mkF m 160 #[.val (.long q0), .second, .val (.int p1), .val (.int p2), .val (.int p3), .val (.ref b2), .val (.int z105), .val (.int z117), .unset, .unset] [(.ref b2)])) _
        refine own_step (fun _ => XS.iconst X29.here hx rfl (hb hby at_160)) ?_
        show own_Goes p.tables e below (T29.setTop (mkF m 161 #[.val (.long q0), .second, .val (.int p1), .val (.int p2), .val (.int p3), .val (.ref b2), .val (.int z105), .val (.int z117), .unset, .unset] [(.int (3 : Int32)), (.ref b2)])) _
        refine own_step (fun _ => XS.iload X29.here hx rfl (hb hby at_161) rfl) ?_
        show own_Goes p.tables e below (T29.setTop (mkF m 163 #[.val (.long q0), .second, .val (.int p1), .val (.int p2), .val (.int p3), .val (.ref b2), .val (.int z105), .val (.int z117), .unset, .unset] [(.int z117), (.int (3 : Int32)), (.ref b2)])) _
        refine own_step (fun _ => XS.iload X29.here hx rfl (hb hby at_163) rfl) ?_
        show own_Goes p.tables e below (T29.setTop (mkF m 165 #[.val (.long q0), .second, .val (.int p1), .val (.int p2), .val (.int p3), .val (.ref b2), .val (.int z105), .val (.int z117), .unset, .unset] [(.int z105), (.int z117), (.int (3 : Int32)), (.ref b2)])) _
        obtain ⟨_, _, ⟨T30, L30, k30, n30⟩, -, X30, ⟨Lc30, hQ30, l30, y30, z30⟩, st30⟩ := Jvm.LawKit.callS X29 hx (y := (⟨"com/example/kolektyv/kolektyv/records/Iso2709ReaderDigitsPinLaw", "ok", "([BIII)Z"⟩ : MethodName)) hown (mvT hZ (hw _ (List.mem_of_getElem? (i := 7) rfl))) (mvT hZ (hw _ (List.mem_of_getElem? (i := 8) rfl))) (mvT hZ (hw _ (List.mem_of_getElem? (i := 3) rfl))) (mvT hZ (hw _ (List.mem_of_getElem? (i := 9) rfl))) (by decide) (backOf (W := 0) (rm2 l Z a0 hw [] b2 (3 : Int32) z117 z105 ys k1 h17 n0 Z17 V_ys (by decide)) hZ (hw _ (List.mem_of_getElem? (i := 9) rfl)) (hw _ (List.mem_of_getElem? (i := 3) rfl)) (by decide) (by decide)) (g := (mkF m 165 #[.val (.long q0), .second, .val (.int p1), .val (.int p2), .val (.int p3), .val (.ref b2), .val (.int z105), .val (.int z117), .unset, .unset] [(.int z105), (.int z117), (.int (3 : Int32)), (.ref b2)])) rfl (by rw [hml]; rfl) (argsL := [(.ref b2), (.int (3 : Int32)), (.int z117), (.int z105)]) (rest := []) (lenOf pd_0_1 rfl) rfl (by show 2 * 0 + _ ≤ _; exact Nat.le_of_eq rfl) (hb hby at_165) (fun _ _ => ⟨rfl, e29, (by decide : (0 + 1) + 0 ≤ _), (by decide : (0 + 8) + 0 ≤ _)⟩)
        dsimp only [Pt.U, Pt.locs, Pt.cells, Pt.slots] at X30 l30 y30 z30 st30 hQ30
        subst l30 y30 z30
        obtain ⟨rfl, rfl, e30⟩ := hQ30
        have X30 : Stand p l e room_1 s m #[(.long q0), (.int p1), (.int p2), (.int p3)] below meth c T30 L17 (0 + 1) (0 + 8) := own_flat X30
        refine own_step (st30) ?_
        show own_Goes p.tables e below (T30.setTop (mkF m 168 #[.val (.long q0), .second, .val (.int p1), .val (.int p2), .val (.int p3), .val (.ref b2), .val (.int z105), .val (.int z117), .unset, .unset] [(.int (own_f2 ys (3 : Int32) z117 z105))])) _
        by_cases hc168 : (own_f2 ys (3 : Int32) z117 z105) = 0
        · refine own_step (fun _ => XS.ifYes X30.here hx rfl (pc0 := 168) (pc' := 229) rfl (hb hby at_168) rfl (Jvm.Free.XT.i0_eq_t hc168) (by decide) (by decide)) ?_
          show own_Goes p.tables e below (T30.setTop (mkF m 229 #[.val (.long q0), .second, .val (.int p1), .val (.int p2), .val (.int p3), .val (.ref b2), .val (.int z105), .val (.int z117), .unset, .unset] [])) _
          have hv : (own_f0 q0 p1 p2 p3) = (own_f0_229 ys z105 z117) := by subst hz117; subst hz105; subst hys; exact ((((if_neg hc129)).trans (if_neg hc142)).trans (if_neg hc155)).trans (if_pos hc168)
          rw [hv]
          exact J229 T30 X30 e30
        · refine own_step (fun _ => XS.ifNo X30.here hx rfl (hb hby at_168) rfl (Jvm.Free.XT.i0_eq_f hc168)) ?_
          show own_Goes p.tables e below (T30.setTop (mkF m 171 #[.val (.long q0), .second, .val (.int p1), .val (.int p2), .val (.int p3), .val (.ref b2), .val (.int z105), .val (.int z117), .unset, .unset] [])) _
          refine own_step (fun _ => XS.aload X30.here hx rfl (hb hby at_171) rfl rfl) ?_
          show own_Goes p.tables e below (T30.setTop (mkF m 173 #[.val (.long q0), .second, .val (.int p1), .val (.int p2), .val (.int p3), .val (.ref b2), .val (.int z105), .val (.int z117), .unset, .unset] [(.ref b2)])) _
          refine own_step (fun _ => XS.iconst X30.here hx rfl (hb hby at_173)) ?_
          show own_Goes p.tables e below (T30.setTop (mkF m 174 #[.val (.long q0), .second, .val (.int p1), .val (.int p2), .val (.int p3), .val (.ref b2), .val (.int z105), .val (.int z117), .unset, .unset] [(.int (4 : Int32)), (.ref b2)])) _
          refine own_step (fun _ => XS.iload X30.here hx rfl (hb hby at_174) rfl) ?_
          show own_Goes p.tables e below (T30.setTop (mkF m 176 #[.val (.long q0), .second, .val (.int p1), .val (.int p2), .val (.int p3), .val (.ref b2), .val (.int z105), .val (.int z117), .unset, .unset] [(.int z117), (.int (4 : Int32)), (.ref b2)])) _
          refine own_step (fun _ => XS.iload X30.here hx rfl (hb hby at_176) rfl) ?_
          show own_Goes p.tables e below (T30.setTop (mkF m 178 #[.val (.long q0), .second, .val (.int p1), .val (.int p2), .val (.int p3), .val (.ref b2), .val (.int z105), .val (.int z117), .unset, .unset] [(.int z105), (.int z117), (.int (4 : Int32)), (.ref b2)])) _
          obtain ⟨_, _, ⟨T31, L31, k31, n31⟩, -, X31, ⟨Lc31, hQ31, l31, y31, z31⟩, st31⟩ := Jvm.LawKit.callS X30 hx (y := (⟨"com/example/kolektyv/kolektyv/records/Iso2709ReaderDigitsPinLaw", "ok", "([BIII)Z"⟩ : MethodName)) hown (mvT hZ (hw _ (List.mem_of_getElem? (i := 7) rfl))) (mvT hZ (hw _ (List.mem_of_getElem? (i := 8) rfl))) (mvT hZ (hw _ (List.mem_of_getElem? (i := 3) rfl))) (mvT hZ (hw _ (List.mem_of_getElem? (i := 9) rfl))) (by decide) (backOf (W := 0) (rm2 l Z a0 hw [] b2 (4 : Int32) z117 z105 ys k1 h17 n0 Z17 V_ys (by decide)) hZ (hw _ (List.mem_of_getElem? (i := 9) rfl)) (hw _ (List.mem_of_getElem? (i := 3) rfl)) (by decide) (by decide)) (g := (mkF m 178 #[.val (.long q0), .second, .val (.int p1), .val (.int p2), .val (.int p3), .val (.ref b2), .val (.int z105), .val (.int z117), .unset, .unset] [(.int z105), (.int z117), (.int (4 : Int32)), (.ref b2)])) rfl (by rw [hml]; rfl) (argsL := [(.ref b2), (.int (4 : Int32)), (.int z117), (.int z105)]) (rest := []) (lenOf pd_0_1 rfl) rfl (by show 2 * 0 + _ ≤ _; exact Nat.le_of_eq rfl) (hb hby at_178) (fun _ _ => ⟨rfl, e30, (by decide : (0 + 1) + 0 ≤ _), (by decide : (0 + 8) + 0 ≤ _)⟩)
          dsimp only [Pt.U, Pt.locs, Pt.cells, Pt.slots] at X31 l31 y31 z31 st31 hQ31
          subst l31 y31 z31
          obtain ⟨rfl, rfl, e31⟩ := hQ31
          have X31 : Stand p l e room_1 s m #[(.long q0), (.int p1), (.int p2), (.int p3)] below meth c T31 L17 (0 + 1) (0 + 8) := own_flat X31
          refine own_step (st31) ?_
          show own_Goes p.tables e below (T31.setTop (mkF m 181 #[.val (.long q0), .second, .val (.int p1), .val (.int p2), .val (.int p3), .val (.ref b2), .val (.int z105), .val (.int z117), .unset, .unset] [(.int (own_f2 ys (4 : Int32) z117 z105))])) _
          by_cases hc181 : (own_f2 ys (4 : Int32) z117 z105) = 0
          · refine own_step (fun _ => XS.ifYes X31.here hx rfl (pc0 := 181) (pc' := 229) rfl (hb hby at_181) rfl (Jvm.Free.XT.i0_eq_t hc181) (by decide) (by decide)) ?_
            show own_Goes p.tables e below (T31.setTop (mkF m 229 #[.val (.long q0), .second, .val (.int p1), .val (.int p2), .val (.int p3), .val (.ref b2), .val (.int z105), .val (.int z117), .unset, .unset] [])) _
            have hv : (own_f0 q0 p1 p2 p3) = (own_f0_229 ys z105 z117) := by subst hz117; subst hz105; subst hys; exact (((((if_neg hc129)).trans (if_neg hc142)).trans (if_neg hc155)).trans (if_neg hc168)).trans (if_pos hc181)
            rw [hv]
            exact J229 T31 X31 e31
          · refine own_step (fun _ => XS.ifNo X31.here hx rfl (hb hby at_181) rfl (Jvm.Free.XT.i0_eq_f hc181)) ?_
            show own_Goes p.tables e below (T31.setTop (mkF m 184 #[.val (.long q0), .second, .val (.int p1), .val (.int p2), .val (.int p3), .val (.ref b2), .val (.int z105), .val (.int z117), .unset, .unset] [])) _
            refine own_step (fun _ => XS.aload X31.here hx rfl (hb hby at_184) rfl rfl) ?_
            show own_Goes p.tables e below (T31.setTop (mkF m 186 #[.val (.long q0), .second, .val (.int p1), .val (.int p2), .val (.int p3), .val (.ref b2), .val (.int z105), .val (.int z117), .unset, .unset] [(.ref b2)])) _
            refine own_step (fun _ => XS.iconst X31.here hx rfl (hb hby at_186)) ?_
            show own_Goes p.tables e below (T31.setTop (mkF m 187 #[.val (.long q0), .second, .val (.int p1), .val (.int p2), .val (.int p3), .val (.ref b2), .val (.int z105), .val (.int z117), .unset, .unset] [(.int (5 : Int32)), (.ref b2)])) _
            refine own_step (fun _ => XS.iload X31.here hx rfl (hb hby at_187) rfl) ?_
            show own_Goes p.tables e below (T31.setTop (mkF m 189 #[.val (.long q0), .second, .val (.int p1), .val (.int p2), .val (.int p3), .val (.ref b2), .val (.int z105), .val (.int z117), .unset, .unset] [(.int z117), (.int (5 : Int32)), (.ref b2)])) _
            refine own_step (fun _ => XS.iload X31.here hx rfl (hb hby at_189) rfl) ?_
            show own_Goes p.tables e below (T31.setTop (mkF m 191 #[.val (.long q0), .second, .val (.int p1), .val (.int p2), .val (.int p3), .val (.ref b2), .val (.int z105), .val (.int z117), .unset, .unset] [(.int z105), (.int z117), (.int (5 : Int32)), (.ref b2)])) _
            obtain ⟨_, _, ⟨T32, L32, k32, n32⟩, -, X32, ⟨Lc32, hQ32, l32, y32, z32⟩, st32⟩ := Jvm.LawKit.callS X31 hx (y := (⟨"com/example/kolektyv/kolektyv/records/Iso2709ReaderDigitsPinLaw", "ok", "([BIII)Z"⟩ : MethodName)) hown (mvT hZ (hw _ (List.mem_of_getElem? (i := 7) rfl))) (mvT hZ (hw _ (List.mem_of_getElem? (i := 8) rfl))) (mvT hZ (hw _ (List.mem_of_getElem? (i := 3) rfl))) (mvT hZ (hw _ (List.mem_of_getElem? (i := 9) rfl))) (by decide) (backOf (W := 0) (rm2 l Z a0 hw [] b2 (5 : Int32) z117 z105 ys k1 h17 n0 Z17 V_ys (by decide)) hZ (hw _ (List.mem_of_getElem? (i := 9) rfl)) (hw _ (List.mem_of_getElem? (i := 3) rfl)) (by decide) (by decide)) (g := (mkF m 191 #[.val (.long q0), .second, .val (.int p1), .val (.int p2), .val (.int p3), .val (.ref b2), .val (.int z105), .val (.int z117), .unset, .unset] [(.int z105), (.int z117), (.int (5 : Int32)), (.ref b2)])) rfl (by rw [hml]; rfl) (argsL := [(.ref b2), (.int (5 : Int32)), (.int z117), (.int z105)]) (rest := []) (lenOf pd_0_1 rfl) rfl (by show 2 * 0 + _ ≤ _; exact Nat.le_of_eq rfl) (hb hby at_191) (fun _ _ => ⟨rfl, e31, (by decide : (0 + 1) + 0 ≤ _), (by decide : (0 + 8) + 0 ≤ _)⟩)
            dsimp only [Pt.U, Pt.locs, Pt.cells, Pt.slots] at X32 l32 y32 z32 st32 hQ32
            subst l32 y32 z32
            obtain ⟨rfl, rfl, e32⟩ := hQ32
            have X32 : Stand p l e room_1 s m #[(.long q0), (.int p1), (.int p2), (.int p3)] below meth c T32 L17 (0 + 1) (0 + 8) := own_flat X32
            refine own_step (st32) ?_
            show own_Goes p.tables e below (T32.setTop (mkF m 194 #[.val (.long q0), .second, .val (.int p1), .val (.int p2), .val (.int p3), .val (.ref b2), .val (.int z105), .val (.int z117), .unset, .unset] [(.int (own_f2 ys (5 : Int32) z117 z105))])) _
            by_cases hc194 : (own_f2 ys (5 : Int32) z117 z105) = 0
            · refine own_step (fun _ => XS.ifYes X32.here hx rfl (pc0 := 194) (pc' := 229) rfl (hb hby at_194) rfl (Jvm.Free.XT.i0_eq_t hc194) (by decide) (by decide)) ?_
              show own_Goes p.tables e below (T32.setTop (mkF m 229 #[.val (.long q0), .second, .val (.int p1), .val (.int p2), .val (.int p3), .val (.ref b2), .val (.int z105), .val (.int z117), .unset, .unset] [])) _
              have hv : (own_f0 q0 p1 p2 p3) = (own_f0_229 ys z105 z117) := by subst hz117; subst hz105; subst hys; exact ((((((if_neg hc129)).trans (if_neg hc142)).trans (if_neg hc155)).trans (if_neg hc168)).trans (if_neg hc181)).trans (if_pos hc194)
              rw [hv]
              exact J229 T32 X32 e32
            · refine own_step (fun _ => XS.ifNo X32.here hx rfl (hb hby at_194) rfl (Jvm.Free.XT.i0_eq_f hc194)) ?_
              show own_Goes p.tables e below (T32.setTop (mkF m 197 #[.val (.long q0), .second, .val (.int p1), .val (.int p2), .val (.int p3), .val (.ref b2), .val (.int z105), .val (.int z117), .unset, .unset] [])) _
              refine own_step (fun _ => XS.aload X32.here hx rfl (hb hby at_197) rfl rfl) ?_
              show own_Goes p.tables e below (T32.setTop (mkF m 199 #[.val (.long q0), .second, .val (.int p1), .val (.int p2), .val (.int p3), .val (.ref b2), .val (.int z105), .val (.int z117), .unset, .unset] [(.ref b2)])) _
              refine own_step (fun _ => XS.bipush X32.here hx rfl (hb hby at_199)) ?_
              show own_Goes p.tables e below (T32.setTop (mkF m 201 #[.val (.long q0), .second, .val (.int p1), .val (.int p2), .val (.int p3), .val (.ref b2), .val (.int z105), .val (.int z117), .unset, .unset] [(.int (6 : Int32)), (.ref b2)])) _
              refine own_step (fun _ => XS.iload X32.here hx rfl (hb hby at_201) rfl) ?_
              show own_Goes p.tables e below (T32.setTop (mkF m 203 #[.val (.long q0), .second, .val (.int p1), .val (.int p2), .val (.int p3), .val (.ref b2), .val (.int z105), .val (.int z117), .unset, .unset] [(.int z117), (.int (6 : Int32)), (.ref b2)])) _
              refine own_step (fun _ => XS.iload X32.here hx rfl (hb hby at_203) rfl) ?_
              show own_Goes p.tables e below (T32.setTop (mkF m 205 #[.val (.long q0), .second, .val (.int p1), .val (.int p2), .val (.int p3), .val (.ref b2), .val (.int z105), .val (.int z117), .unset, .unset] [(.int z105), (.int z117), (.int (6 : Int32)), (.ref b2)])) _
              obtain ⟨_, _, ⟨T33, L33, k33, n33⟩, -, X33, ⟨Lc33, hQ33, l33, y33, z33⟩, st33⟩ := Jvm.LawKit.callS X32 hx (y := (⟨"com/example/kolektyv/kolektyv/records/Iso2709ReaderDigitsPinLaw", "ok", "([BIII)Z"⟩ : MethodName)) hown (mvT hZ (hw _ (List.mem_of_getElem? (i := 7) rfl))) (mvT hZ (hw _ (List.mem_of_getElem? (i := 8) rfl))) (mvT hZ (hw _ (List.mem_of_getElem? (i := 3) rfl))) (mvT hZ (hw _ (List.mem_of_getElem? (i := 9) rfl))) (by decide) (backOf (W := 0) (rm2 l Z a0 hw [] b2 (6 : Int32) z117 z105 ys k1 h17 n0 Z17 V_ys (by decide)) hZ (hw _ (List.mem_of_getElem? (i := 9) rfl)) (hw _ (List.mem_of_getElem? (i := 3) rfl)) (by decide) (by decide)) (g := (mkF m 205 #[.val (.long q0), .second, .val (.int p1), .val (.int p2), .val (.int p3), .val (.ref b2), .val (.int z105), .val (.int z117), .unset, .unset] [(.int z105), (.int z117), (.int (6 : Int32)), (.ref b2)])) rfl (by rw [hml]; rfl) (argsL := [(.ref b2), (.int (6 : Int32)), (.int z117), (.int z105)]) (rest := []) (lenOf pd_0_1 rfl) rfl (by show 2 * 0 + _ ≤ _; exact Nat.le_of_eq rfl) (hb hby at_205) (fun _ _ => ⟨rfl, e32, (by decide : (0 + 1) + 0 ≤ _), (by decide : (0 + 8) + 0 ≤ _)⟩)
              dsimp only [Pt.U, Pt.locs, Pt.cells, Pt.slots] at X33 l33 y33 z33 st33 hQ33
              subst l33 y33 z33
              obtain ⟨rfl, rfl, e33⟩ := hQ33
              have X33 : Stand p l e room_1 s m #[(.long q0), (.int p1), (.int p2), (.int p3)] below meth c T33 L17 (0 + 1) (0 + 8) := own_flat X33
              refine own_step (st33) ?_
              show own_Goes p.tables e below (T33.setTop (mkF m 208 #[.val (.long q0), .second, .val (.int p1), .val (.int p2), .val (.int p3), .val (.ref b2), .val (.int z105), .val (.int z117), .unset, .unset] [(.int (own_f2 ys (6 : Int32) z117 z105))])) _
              by_cases hc208 : (own_f2 ys (6 : Int32) z117 z105) = 0
              · refine own_step (fun _ => XS.ifYes X33.here hx rfl (pc0 := 208) (pc' := 229) rfl (hb hby at_208) rfl (Jvm.Free.XT.i0_eq_t hc208) (by decide) (by decide)) ?_
                show own_Goes p.tables e below (T33.setTop (mkF m 229 #[.val (.long q0), .second, .val (.int p1), .val (.int p2), .val (.int p3), .val (.ref b2), .val (.int z105), .val (.int z117), .unset, .unset] [])) _
                have hv : (own_f0 q0 p1 p2 p3) = (own_f0_229 ys z105 z117) := by subst hz117; subst hz105; subst hys; exact (((((((if_neg hc129)).trans (if_neg hc142)).trans (if_neg hc155)).trans (if_neg hc168)).trans (if_neg hc181)).trans (if_neg hc194)).trans (if_pos hc208)
                rw [hv]
                exact J229 T33 X33 e33
              · refine own_step (fun _ => XS.ifNo X33.here hx rfl (hb hby at_208) rfl (Jvm.Free.XT.i0_eq_f hc208)) ?_
                show own_Goes p.tables e below (T33.setTop (mkF m 211 #[.val (.long q0), .second, .val (.int p1), .val (.int p2), .val (.int p3), .val (.ref b2), .val (.int z105), .val (.int z117), .unset, .unset] [])) _
                refine own_step (fun _ => XS.aload X33.here hx rfl (hb hby at_211) rfl rfl) ?_
                show own_Goes p.tables e below (T33.setTop (mkF m 213 #[.val (.long q0), .second, .val (.int p1), .val (.int p2), .val (.int p3), .val (.ref b2), .val (.int z105), .val (.int z117), .unset, .unset] [(.ref b2)])) _
                refine own_step (fun _ => XS.bipush X33.here hx rfl (hb hby at_213)) ?_
                show own_Goes p.tables e below (T33.setTop (mkF m 215 #[.val (.long q0), .second, .val (.int p1), .val (.int p2), .val (.int p3), .val (.ref b2), .val (.int z105), .val (.int z117), .unset, .unset] [(.int (7 : Int32)), (.ref b2)])) _
                refine own_step (fun _ => XS.iload X33.here hx rfl (hb hby at_215) rfl) ?_
                show own_Goes p.tables e below (T33.setTop (mkF m 217 #[.val (.long q0), .second, .val (.int p1), .val (.int p2), .val (.int p3), .val (.ref b2), .val (.int z105), .val (.int z117), .unset, .unset] [(.int z117), (.int (7 : Int32)), (.ref b2)])) _
                refine own_step (fun _ => XS.iload X33.here hx rfl (hb hby at_217) rfl) ?_
                show own_Goes p.tables e below (T33.setTop (mkF m 219 #[.val (.long q0), .second, .val (.int p1), .val (.int p2), .val (.int p3), .val (.ref b2), .val (.int z105), .val (.int z117), .unset, .unset] [(.int z105), (.int z117), (.int (7 : Int32)), (.ref b2)])) _
                obtain ⟨_, _, ⟨T34, L34, k34, n34⟩, -, X34, ⟨Lc34, hQ34, l34, y34, z34⟩, st34⟩ := Jvm.LawKit.callS X33 hx (y := (⟨"com/example/kolektyv/kolektyv/records/Iso2709ReaderDigitsPinLaw", "ok", "([BIII)Z"⟩ : MethodName)) hown (mvT hZ (hw _ (List.mem_of_getElem? (i := 7) rfl))) (mvT hZ (hw _ (List.mem_of_getElem? (i := 8) rfl))) (mvT hZ (hw _ (List.mem_of_getElem? (i := 3) rfl))) (mvT hZ (hw _ (List.mem_of_getElem? (i := 9) rfl))) (by decide) (backOf (W := 0) (rm2 l Z a0 hw [] b2 (7 : Int32) z117 z105 ys k1 h17 n0 Z17 V_ys (by decide)) hZ (hw _ (List.mem_of_getElem? (i := 9) rfl)) (hw _ (List.mem_of_getElem? (i := 3) rfl)) (by decide) (by decide)) (g := (mkF m 219 #[.val (.long q0), .second, .val (.int p1), .val (.int p2), .val (.int p3), .val (.ref b2), .val (.int z105), .val (.int z117), .unset, .unset] [(.int z105), (.int z117), (.int (7 : Int32)), (.ref b2)])) rfl (by rw [hml]; rfl) (argsL := [(.ref b2), (.int (7 : Int32)), (.int z117), (.int z105)]) (rest := []) (lenOf pd_0_1 rfl) rfl (by show 2 * 0 + _ ≤ _; exact Nat.le_of_eq rfl) (hb hby at_219) (fun _ _ => ⟨rfl, e33, (by decide : (0 + 1) + 0 ≤ _), (by decide : (0 + 8) + 0 ≤ _)⟩)
                dsimp only [Pt.U, Pt.locs, Pt.cells, Pt.slots] at X34 l34 y34 z34 st34 hQ34
                subst l34 y34 z34
                obtain ⟨rfl, rfl, e34⟩ := hQ34
                have X34 : Stand p l e room_1 s m #[(.long q0), (.int p1), (.int p2), (.int p3)] below meth c T34 L17 (0 + 1) (0 + 8) := own_flat X34
                refine own_step (st34) ?_
                show own_Goes p.tables e below (T34.setTop (mkF m 222 #[.val (.long q0), .second, .val (.int p1), .val (.int p2), .val (.int p3), .val (.ref b2), .val (.int z105), .val (.int z117), .unset, .unset] [(.int (own_f2 ys (7 : Int32) z117 z105))])) _
                by_cases hc222 : (own_f2 ys (7 : Int32) z117 z105) = 0
                · refine own_step (fun _ => XS.ifYes X34.here hx rfl (pc0 := 222) (pc' := 229) rfl (hb hby at_222) rfl (Jvm.Free.XT.i0_eq_t hc222) (by decide) (by decide)) ?_
                  show own_Goes p.tables e below (T34.setTop (mkF m 229 #[.val (.long q0), .second, .val (.int p1), .val (.int p2), .val (.int p3), .val (.ref b2), .val (.int z105), .val (.int z117), .unset, .unset] [])) _
                  have hv : (own_f0 q0 p1 p2 p3) = (own_f0_229 ys z105 z117) := by subst hz117; subst hz105; subst hys; exact ((((((((if_neg hc129)).trans (if_neg hc142)).trans (if_neg hc155)).trans (if_neg hc168)).trans (if_neg hc181)).trans (if_neg hc194)).trans (if_neg hc208)).trans (if_pos hc222)
                  rw [hv]
                  exact J229 T34 X34 e34
                · refine own_step (fun _ => XS.ifNo X34.here hx rfl (hb hby at_222) rfl (Jvm.Free.XT.i0_eq_f hc222)) ?_
                  show own_Goes p.tables e below (T34.setTop (mkF m 225 #[.val (.long q0), .second, .val (.int p1), .val (.int p2), .val (.int p3), .val (.ref b2), .val (.int z105), .val (.int z117), .unset, .unset] [])) _
                  refine own_step (fun _ => XS.iconst X34.here hx rfl (hb hby at_225)) ?_
                  show own_Goes p.tables e below (T34.setTop (mkF m 226 #[.val (.long q0), .second, .val (.int p1), .val (.int p2), .val (.int p3), .val (.ref b2), .val (.int z105), .val (.int z117), .unset, .unset] [(.int (1 : Int32))])) _
                  refine own_step (fun _ => XS.goto X34.here hx rfl (pc0 := 226) (pc' := 230) rfl (hb hby at_226) (by decide) (by decide)) ?_
                  show own_Goes p.tables e below (T34.setTop (mkF m 230 #[.val (.long q0), .second, .val (.int p1), .val (.int p2), .val (.int p3), .val (.ref b2), .val (.int z105), .val (.int z117), .unset, .unset] [(.int (1 : Int32))])) _
                  have hv : (own_f0 q0 p1 p2 p3) = (own_f0_230 ys z105 z117 (1 : Int32)) := by subst hz117; subst hz105; subst hys; exact ((((((((if_neg hc129)).trans (if_neg hc142)).trans (if_neg hc155)).trans (if_neg hc168)).trans (if_neg hc181)).trans (if_neg hc194)).trans (if_neg hc208)).trans (if_neg hc222)
                  rw [hv]
                  exact J230 T34 X34 e34 (1 : Int32)
def own_dig (y : Int32) : Prop := ¬ y < (48 : Int32) ∧ ¬ (57 : Int32) < y
def own_byte (y : Int32) : Prop := -128 ≤ y.toInt ∧ y.toInt ≤ 127
theorem own_nar (x : Int32) : own_byte (nar .byte x) := by
  have e : (nar .byte x).toInt = x.toInt8.toInt := Int8.toInt_toInt32 _
  unfold own_byte
  rw [e]
  have h1 := x.toInt8.toInt_lt
  have h2 := x.toInt8.le_toInt
  omega
theorem own_sub48 {y : Int32} (h : own_byte y) : (y - (48 : Int32)).toInt = y.toInt - 48 := by
  unfold own_byte at h
  have l : (48 : Int32).toInt = 48 := rfl
  rw [Jvm.Kit.i32_sub (by omega) (by omega), l]
theorem own_dT {y : Int32} (h : own_byte y) (d : own_dig y) : ¬ (y - (48 : Int32)) < 0 ∧ ¬ (9 : Int32) < (y - (48 : Int32)) := by
  have e := own_sub48 h
  obtain ⟨d1, d2⟩ := d
  rw [Int32.lt_iff_toInt_lt, show (48 : Int32).toInt = 48 from rfl] at d1
  rw [Int32.lt_iff_toInt_lt, show (57 : Int32).toInt = 57 from rfl] at d2
  rw [Int32.lt_iff_toInt_lt, Int32.lt_iff_toInt_lt, e, show (0 : Int32).toInt = 0 from rfl, show (9 : Int32).toInt = 9 from rfl]
  omega
theorem own_dF {y : Int32} (h : own_byte y) (d : ¬ own_dig y) : (y - (48 : Int32)) < 0 ∨ (9 : Int32) < (y - (48 : Int32)) := by
  have e := own_sub48 h
  unfold own_dig at d
  rw [Int32.lt_iff_toInt_lt, show (48 : Int32).toInt = 48 from rfl, Int32.lt_iff_toInt_lt, show (57 : Int32).toInt = 57 from rfl] at d
  rw [Int32.lt_iff_toInt_lt, Int32.lt_iff_toInt_lt, e, show (0 : Int32).toInt = 0 from rfl, show (9 : Int32).toInt = 9 from rfl]
  omega
theorem own_stepT (ys : List Int32) (f c : Int32) (n : Nat) (acc i : Int32) (hi : i < f + c) (hb : own_byte (ys.getD i.toNatClampNeg 0)) (d : own_dig (ys.getD i.toNatClampNeg 0)) : own_f4_5 ys f c (n + 1) acc i = own_f4_5 ys f c n (((10 : Int32) * acc) + (ys.getD i.toNatClampNeg 0 - (48 : Int32))) (i + (1 : Int32)) := by
  have h := own_dT hb d
  exact (if_pos hi).trans ((if_neg h.1).trans (if_neg h.2))
theorem own_stepF (ys : List Int32) (f c : Int32) (n : Nat) (acc i : Int32) (hi : i < f + c) (hb : own_byte (ys.getD i.toNatClampNeg 0)) (d : ¬ own_dig (ys.getD i.toNatClampNeg 0)) : own_f4_5 ys f c (n + 1) acc i = -1 := by
  by_cases h : (ys.getD i.toNatClampNeg 0 - (48 : Int32)) < 0
  · exact (if_pos hi).trans (if_pos h)
  · exact (if_pos hi).trans ((if_neg h).trans (if_pos ((own_dF hb d).resolve_left h)))
theorem own_stop (ys : List Int32) (f c : Int32) (n : Nat) (acc i : Int32) (hi : ¬ i < f + c) : own_f4_5 ys f c (n + 1) acc i = acc := if_neg hi
theorem own_ofN {k : Nat} (h : k < 100) : (Int32.ofNat k).toInt = (k : Int) := Int32.toInt_ofNat_of_lt (by omega)
theorem own_cN {k : Nat} (h : k < 100) : (Int32.ofNat k).toNatClampNeg = k := by
  unfold Int32.toNatClampNeg
  rw [own_ofN h]
  omega
theorem own_sN {k : Nat} (h : k < 99) : Int32.ofNat k + (1 : Int32) = Int32.ofNat (k + 1) := by
  apply Int32.toInt_inj.mp
  have l : (1 : Int32).toInt = 1 := rfl
  have e := own_ofN (k := k) (by omega)
  rw [Jvm.Kit.i32_add (by omega) (by omega), own_ofN (by omega), own_ofN (by omega), l]
  omega
theorem own_bad (ys : List Int32) (f c : Int32) (S : Nat) (hS : (f + c).toInt = (S : Int)) (h8 : S ≤ 8) (hb : ∀ k, own_byte (ys.getD k 0)) (fuel : Nat) : ∀ (I : Nat) (acc : Int32), I ≤ S → S - I < fuel → (∃ k, I ≤ k ∧ k < S ∧ ¬ own_dig (ys.getD k 0)) → own_f4_5 ys f c fuel acc (Int32.ofNat I) = -1 := by
  induction fuel with
  | zero => intro I acc h1 h2; omega
  | succ fuel ih =>
    intro I acc h1 h2 ⟨k, k1, k2, k3⟩
    have hi : Int32.ofNat I < f + c := by rw [Int32.lt_iff_toInt_lt, hS, own_ofN (by omega)]; omega
    have cn := own_cN (k := I) (by omega)
    by_cases d : own_dig (ys.getD I 0)
    · have hne : k ≠ I := fun q => k3 (q ▸ d)
      rw [own_stepT ys f c fuel acc _ hi (by rw [cn]; exact hb I) (by rw [cn]; exact d), own_sN (by omega)]
      exact ih (I + 1) _ (by omega) (by omega) ⟨k, by omega, k2, k3⟩
    · exact own_stepF ys f c fuel acc _ hi (by rw [cn]; exact hb I) (by rw [cn]; exact d)
def own_hor (ys : List Int32) : Nat → Nat → Int32 → Int32
  | 0, _, acc => acc
  | n + 1, k, acc => own_hor ys n (k + 1) (10 * acc + (ys.getD k 0 - 48))
theorem own_good (ys : List Int32) (f c : Int32) (S : Nat) (hS : (f + c).toInt = (S : Int)) (h8 : S ≤ 8) (hb : ∀ k, own_byte (ys.getD k 0)) (fuel : Nat) : ∀ (I : Nat) (acc : Int32), I ≤ S → S - I < fuel → (∀ k, I ≤ k → k < S → own_dig (ys.getD k 0)) → own_f4_5 ys f c fuel acc (Int32.ofNat I) = own_hor ys (S - I) I acc := by
  induction fuel with
  | zero => intro I acc h1 h2; omega
  | succ fuel ih =>
    intro I acc h1 h2 hd
    have cn := own_cN (k := I) (by omega)
    by_cases q : I < S
    · have hi : Int32.ofNat I < f + c := by rw [Int32.lt_iff_toInt_lt, hS, own_ofN (by omega)]; omega
      rw [own_stepT ys f c fuel acc _ hi (by rw [cn]; exact hb I) (by rw [cn]; exact hd I (Nat.le_refl _) q), own_sN (by omega), ih (I + 1) _ (by omega) (by omega) (fun k k1 k2 => hd k (by omega) k2), cn]
      have e : S - I = (S - (I + 1)) + 1 := by omega
      rw [e]
      rfl
    · have hi : ¬ Int32.ofNat I < f + c := by rw [Int32.lt_iff_toInt_lt, hS, own_ofN (by omega)]; omega
      rw [own_stop ys f c fuel acc _ hi]
      have e : S - I = 0 := by omega
      rw [e]
      rfl
/-- the law's answer out of the eight oks, the method's answer and the sum -/
def own_pk (x0 x1 x2 x3 x4 x5 x6 x7 r t : Int32) : Int32 :=
  if x0 = 0 then (if r = -1 then 1 else 0) else if x1 = 0 then (if r = -1 then 1 else 0) else if x2 = 0 then (if r = -1 then 1 else 0) else if x3 = 0 then (if r = -1 then 1 else 0) else if x4 = 0 then (if r = -1 then 1 else 0) else if x5 = 0 then (if r = -1 then 1 else 0) else if x6 = 0 then (if r = -1 then 1 else 0) else if x7 = 0 then (if r = -1 then 1 else 0) else (if r = t then 1 else 0)
theorem own_pkF (x0 x1 x2 x3 x4 x5 x6 x7 t : Int32) (h : x0 = 0 ∨ x1 = 0 ∨ x2 = 0 ∨ x3 = 0 ∨ x4 = 0 ∨ x5 = 0 ∨ x6 = 0 ∨ x7 = 0) : own_pk x0 x1 x2 x3 x4 x5 x6 x7 (-1) t = 1 := by
  unfold own_pk
  by_cases h0 : x0 = 0
  · simp only [h0, ↓reduceIte]
  · by_cases h1 : x1 = 0
    · simp only [h0, h1, ↓reduceIte]
    · by_cases h2 : x2 = 0
      · simp only [h0, h1, h2, ↓reduceIte]
      · by_cases h3 : x3 = 0
        · simp only [h0, h1, h2, h3, ↓reduceIte]
        · by_cases h4 : x4 = 0
          · simp only [h0, h1, h2, h3, h4, ↓reduceIte]
          · by_cases h5 : x5 = 0
            · simp only [h0, h1, h2, h3, h4, h5, ↓reduceIte]
            · by_cases h6 : x6 = 0
              · simp only [h0, h1, h2, h3, h4, h5, h6, ↓reduceIte]
              · have h7 : x7 = 0 := by
                  rcases h with h | h | h | h | h | h | h | h
                  · exact absurd h h0
                  · exact absurd h h1
                  · exact absurd h h2
                  · exact absurd h h3
                  · exact absurd h h4
                  · exact absurd h h5
                  · exact absurd h h6
                  · exact h
                simp only [h0, h1, h2, h3, h4, h5, h6, h7, ↓reduceIte]
theorem own_pkT (x0 x1 x2 x3 x4 x5 x6 x7 t : Int32) (h0 : x0 = 1) (h1 : x1 = 1) (h2 : x2 = 1) (h3 : x3 = 1) (h4 : x4 = 1) (h5 : x5 = 1) (h6 : x6 = 1) (h7 : x7 = 1) : own_pk x0 x1 x2 x3 x4 x5 x6 x7 t t = 1 := by
  subst h0 h1 h2 h3 h4 h5 h6 h7
  have k : ¬ (1 : Int32) = 0 := by decide
  unfold own_pk
  simp only [k, ↓reduceIte]
def own_T (ys : List Int32) (f c : Int32) : Int32 := ((((((((own_f5 ys (0 : Int32) f c) + (own_f5 ys (1 : Int32) f c)) + (own_f5 ys (2 : Int32) f c)) + (own_f5 ys (3 : Int32) f c)) + (own_f5 ys (4 : Int32) f c)) + (own_f5 ys (5 : Int32) f c)) + (own_f5 ys (6 : Int32) f c)) + (own_f5 ys (7 : Int32) f c))
def own_ans (ys : List Int32) (f c : Int32) : Int32 := own_pk (own_f2 ys 0 f c) (own_f2 ys 1 f c) (own_f2 ys 2 f c) (own_f2 ys 3 f c) (own_f2 ys 4 f c) (own_f2 ys 5 f c) (own_f2 ys 6 f c) (own_f2 ys 7 f c) (own_f4 ys f c) (own_T ys f c)
theorem own_f3_in {i f c : Int32} (h : own_small f c) : own_f3 i f c = if f.toInt ≤ i.toInt ∧ i.toInt < f.toInt + c.toInt then 1 else 0 := by
  have e := own_sum8 h
  unfold own_f3 own_f3_16
  simp only [Int32.lt_iff_toInt_lt, e]
  by_cases h1 : i.toInt < f.toInt
  · rw [if_pos h1, if_neg (by omega)]
  · by_cases h2 : i.toInt < f.toInt + c.toInt
    · rw [if_neg h1, if_pos h2, if_pos (by omega)]
    · rw [if_neg h1, if_neg h2, if_neg (by omega)]
theorem own_f2F {ys : List Int32} {i f c : Int32} (h : own_small f c) (k : Nat) (hk : i = Int32.ofNat k) (k8 : k < 8) (h1 : f.toInt ≤ (k : Int)) (h2 : (k : Int) < f.toInt + c.toInt) (d : ¬ own_dig (ys.getD k 0)) : own_f2 ys i f c = 0 := by
  subst hk
  have e := own_ofN (k := k) (by omega)
  have cn := own_cN (k := k) (by omega)
  have hin : ¬ own_f3 (Int32.ofNat k) f c = 0 := by
    rw [own_f3_in h, if_pos (by omega)]
    decide
  unfold own_f2 own_f2_25 own_f2_29
  rw [if_neg hin, cn]
  unfold own_dig at d
  by_cases q : ys.getD k 0 < (48 : Int32)
  · rw [if_pos q]
  · rw [if_neg q]
    by_cases q2 : (57 : Int32) < ys.getD k 0
    · rw [if_pos q2]
    · exact absurd ⟨q, q2⟩ d
theorem own_f2T {ys : List Int32} {i f c : Int32} (h : own_small f c) (k : Nat) (hk : i = Int32.ofNat k) (k8 : k < 8) (d : f.toInt ≤ (k : Int) → (k : Int) < f.toInt + c.toInt → own_dig (ys.getD k 0)) : own_f2 ys i f c = 1 := by
  subst hk
  have e := own_ofN (k := k) (by omega)
  have cn := own_cN (k := k) (by omega)
  unfold own_f2 own_f2_25 own_f2_29
  by_cases hin : f.toInt ≤ (k : Int) ∧ (k : Int) < f.toInt + c.toInt
  · have hz : ¬ own_f3 (Int32.ofNat k) f c = 0 := by
      rw [own_f3_in h, if_pos (by omega)]
      decide
    obtain ⟨d1, d2⟩ := d hin.1 hin.2
    rw [if_neg hz, cn, if_neg d1, if_neg d2]
  · have hz : own_f3 (Int32.ofNat k) f c = 0 := by rw [own_f3_in h, if_neg (by omega)]
    rw [if_pos hz]
theorem own_case_0_0 (y0 y1 y2 y3 y4 y5 y6 y7 : Int32) : own_hor [y0, y1, y2, y3, y4, y5, y6, y7] 0 0 0 = own_T [y0, y1, y2, y3, y4, y5, y6, y7] 0 0 := by
  rfl
theorem own_case_0_1 (y0 y1 y2 y3 y4 y5 y6 y7 : Int32) : own_hor [y0, y1, y2, y3, y4, y5, y6, y7] 1 0 0 = own_T [y0, y1, y2, y3, y4, y5, y6, y7] 0 1 := by
  have l : own_hor [y0, y1, y2, y3, y4, y5, y6, y7] 1 0 0 = (10 * (0 : Int32) + (y0 - 48)) := rfl
  have r : own_T [y0, y1, y2, y3, y4, y5, y6, y7] 0 1 = ((((((((y0 - 48) * 1 + (0 : Int32)) + (0 : Int32)) + (0 : Int32)) + (0 : Int32)) + (0 : Int32)) + (0 : Int32)) + (0 : Int32)) := rfl
  rw [l, r]
  clear l r
  grind
theorem own_case_0_2 (y0 y1 y2 y3 y4 y5 y6 y7 : Int32) : own_hor [y0, y1, y2, y3, y4, y5, y6, y7] 2 0 0 = own_T [y0, y1, y2, y3, y4, y5, y6, y7] 0 2 := by
  have l : own_hor [y0, y1, y2, y3, y4, y5, y6, y7] 2 0 0 = (10 * (10 * (0 : Int32) + (y0 - 48)) + (y1 - 48)) := rfl
  have r : own_T [y0, y1, y2, y3, y4, y5, y6, y7] 0 2 = ((((((((y0 - 48) * 10 + (y1 - 48) * 1) + (0 : Int32)) + (0 : Int32)) + (0 : Int32)) + (0 : Int32)) + (0 : Int32)) + (0 : Int32)) := rfl
  rw [l, r]
  clear l r
  grind
theorem own_case_0_3 (y0 y1 y2 y3 y4 y5 y6 y7 : Int32) : own_hor [y0, y1, y2, y3, y4, y5, y6, y7] 3 0 0 = own_T [y0, y1, y2, y3, y4, y5, y6, y7] 0 3 := by
  have l : own_hor [y0, y1, y2, y3, y4, y5, y6, y7] 3 0 0 = (10 * (10 * (10 * (0 : Int32) + (y0 - 48)) + (y1 - 48)) + (y2 - 48)) := rfl
  have r : own_T [y0, y1, y2, y3, y4, y5, y6, y7] 0 3 = ((((((((y0 - 48) * 100 + (y1 - 48) * 10) + (y2 - 48) * 1) + (0 : Int32)) + (0 : Int32)) + (0 : Int32)) + (0 : Int32)) + (0 : Int32)) := rfl
  rw [l, r]
  clear l r
  grind
theorem own_case_0_4 (y0 y1 y2 y3 y4 y5 y6 y7 : Int32) : own_hor [y0, y1, y2, y3, y4, y5, y6, y7] 4 0 0 = own_T [y0, y1, y2, y3, y4, y5, y6, y7] 0 4 := by
  have l : own_hor [y0, y1, y2, y3, y4, y5, y6, y7] 4 0 0 = (10 * (10 * (10 * (10 * (0 : Int32) + (y0 - 48)) + (y1 - 48)) + (y2 - 48)) + (y3 - 48)) := rfl
  have r : own_T [y0, y1, y2, y3, y4, y5, y6, y7] 0 4 = ((((((((y0 - 48) * 1000 + (y1 - 48) * 100) + (y2 - 48) * 10) + (y3 - 48) * 1) + (0 : Int32)) + (0 : Int32)) + (0 : Int32)) + (0 : Int32)) := rfl
  rw [l, r]
  clear l r
  grind
theorem own_case_0_5 (y0 y1 y2 y3 y4 y5 y6 y7 : Int32) : own_hor [y0, y1, y2, y3, y4, y5, y6, y7] 5 0 0 = own_T [y0, y1, y2, y3, y4, y5, y6, y7] 0 5 := by
  have l : own_hor [y0, y1, y2, y3, y4, y5, y6, y7] 5 0 0 = (10 * (10 * (10 * (10 * (10 * (0 : Int32) + (y0 - 48)) + (y1 - 48)) + (y2 - 48)) + (y3 - 48)) + (y4 - 48)) := rfl
  have r : own_T [y0, y1, y2, y3, y4, y5, y6, y7] 0 5 = ((((((((y0 - 48) * 10000 + (y1 - 48) * 1000) + (y2 - 48) * 100) + (y3 - 48) * 10) + (y4 - 48) * 1) + (0 : Int32)) + (0 : Int32)) + (0 : Int32)) := rfl
  rw [l, r]
  clear l r
  grind
theorem own_case_0_6 (y0 y1 y2 y3 y4 y5 y6 y7 : Int32) : own_hor [y0, y1, y2, y3, y4, y5, y6, y7] 6 0 0 = own_T [y0, y1, y2, y3, y4, y5, y6, y7] 0 6 := by
  have l : own_hor [y0, y1, y2, y3, y4, y5, y6, y7] 6 0 0 = (10 * (10 * (10 * (10 * (10 * (10 * (0 : Int32) + (y0 - 48)) + (y1 - 48)) + (y2 - 48)) + (y3 - 48)) + (y4 - 48)) + (y5 - 48)) := rfl
  have r : own_T [y0, y1, y2, y3, y4, y5, y6, y7] 0 6 = ((((((((y0 - 48) * 100000 + (y1 - 48) * 10000) + (y2 - 48) * 1000) + (y3 - 48) * 100) + (y4 - 48) * 10) + (y5 - 48) * 1) + (0 : Int32)) + (0 : Int32)) := rfl
  rw [l, r]
  clear l r
  grind
theorem own_case_0_7 (y0 y1 y2 y3 y4 y5 y6 y7 : Int32) : own_hor [y0, y1, y2, y3, y4, y5, y6, y7] 7 0 0 = own_T [y0, y1, y2, y3, y4, y5, y6, y7] 0 7 := by
  have l : own_hor [y0, y1, y2, y3, y4, y5, y6, y7] 7 0 0 = (10 * (10 * (10 * (10 * (10 * (10 * (10 * (0 : Int32) + (y0 - 48)) + (y1 - 48)) + (y2 - 48)) + (y3 - 48)) + (y4 - 48)) + (y5 - 48)) + (y6 - 48)) := rfl
  have r : own_T [y0, y1, y2, y3, y4, y5, y6, y7] 0 7 = ((((((((y0 - 48) * 1000000 + (y1 - 48) * 100000) + (y2 - 48) * 10000) + (y3 - 48) * 1000) + (y4 - 48) * 100) + (y5 - 48) * 10) + (y6 - 48) * 1) + (0 : Int32)) := rfl
  rw [l, r]
  clear l r
  grind
theorem own_case_0_8 (y0 y1 y2 y3 y4 y5 y6 y7 : Int32) : own_hor [y0, y1, y2, y3, y4, y5, y6, y7] 8 0 0 = own_T [y0, y1, y2, y3, y4, y5, y6, y7] 0 8 := by
  have l : own_hor [y0, y1, y2, y3, y4, y5, y6, y7] 8 0 0 = (10 * (10 * (10 * (10 * (10 * (10 * (10 * (10 * (0 : Int32) + (y0 - 48)) + (y1 - 48)) + (y2 - 48)) + (y3 - 48)) + (y4 - 48)) + (y5 - 48)) + (y6 - 48)) + (y7 - 48)) := rfl
  have r : own_T [y0, y1, y2, y3, y4, y5, y6, y7] 0 8 = ((((((((y0 - 48) * 10000000 + (y1 - 48) * 1000000) + (y2 - 48) * 100000) + (y3 - 48) * 10000) + (y4 - 48) * 1000) + (y5 - 48) * 100) + (y6 - 48) * 10) + (y7 - 48) * 1) := rfl
  rw [l, r]
  clear l r
  grind
theorem own_case_1_0 (y0 y1 y2 y3 y4 y5 y6 y7 : Int32) : own_hor [y0, y1, y2, y3, y4, y5, y6, y7] 0 1 0 = own_T [y0, y1, y2, y3, y4, y5, y6, y7] 1 0 := by
  rfl
theorem own_case_1_1 (y0 y1 y2 y3 y4 y5 y6 y7 : Int32) : own_hor [y0, y1, y2, y3, y4, y5, y6, y7] 1 1 0 = own_T [y0, y1, y2, y3, y4, y5, y6, y7] 1 1 := by
  have l : own_hor [y0, y1, y2, y3, y4, y5, y6, y7] 1 1 0 = (10 * (0 : Int32) + (y1 - 48)) := rfl
  have r : own_T [y0, y1, y2, y3, y4, y5, y6, y7] 1 1 = ((((((((0 : Int32) + (y1 - 48) * 1) + (0 : Int32)) + (0 : Int32)) + (0 : Int32)) + (0 : Int32)) + (0 : Int32)) + (0 : Int32)) := rfl
  rw [l, r]
  clear l r
  grind
theorem own_case_1_2 (y0 y1 y2 y3 y4 y5 y6 y7 : Int32) : own_hor [y0, y1, y2, y3, y4, y5, y6, y7] 2 1 0 = own_T [y0, y1, y2, y3, y4, y5, y6, y7] 1 2 := by
  have l : own_hor [y0, y1, y2, y3, y4, y5, y6, y7] 2 1 0 = (10 * (10 * (0 : Int32) + (y1 - 48)) + (y2 - 48)) := rfl
  have r : own_T [y0, y1, y2, y3, y4, y5, y6, y7] 1 2 = ((((((((0 : Int32) + (y1 - 48) * 10) + (y2 - 48) * 1) + (0 : Int32)) + (0 : Int32)) + (0 : Int32)) + (0 : Int32)) + (0 : Int32)) := rfl
  rw [l, r]
  clear l r
  grind
theorem own_case_1_3 (y0 y1 y2 y3 y4 y5 y6 y7 : Int32) : own_hor [y0, y1, y2, y3, y4, y5, y6, y7] 3 1 0 = own_T [y0, y1, y2, y3, y4, y5, y6, y7] 1 3 := by
  have l : own_hor [y0, y1, y2, y3, y4, y5, y6, y7] 3 1 0 = (10 * (10 * (10 * (0 : Int32) + (y1 - 48)) + (y2 - 48)) + (y3 - 48)) := rfl
  have r : own_T [y0, y1, y2, y3, y4, y5, y6, y7] 1 3 = ((((((((0 : Int32) + (y1 - 48) * 100) + (y2 - 48) * 10) + (y3 - 48) * 1) + (0 : Int32)) + (0 : Int32)) + (0 : Int32)) + (0 : Int32)) := rfl
  rw [l, r]
  clear l r
  grind
theorem own_case_1_4 (y0 y1 y2 y3 y4 y5 y6 y7 : Int32) : own_hor [y0, y1, y2, y3, y4, y5, y6, y7] 4 1 0 = own_T [y0, y1, y2, y3, y4, y5, y6, y7] 1 4 := by
  have l : own_hor [y0, y1, y2, y3, y4, y5, y6, y7] 4 1 0 = (10 * (10 * (10 * (10 * (0 : Int32) + (y1 - 48)) + (y2 - 48)) + (y3 - 48)) + (y4 - 48)) := rfl
  have r : own_T [y0, y1, y2, y3, y4, y5, y6, y7] 1 4 = ((((((((0 : Int32) + (y1 - 48) * 1000) + (y2 - 48) * 100) + (y3 - 48) * 10) + (y4 - 48) * 1) + (0 : Int32)) + (0 : Int32)) + (0 : Int32)) := rfl
  rw [l, r]
  clear l r
  grind
theorem own_case_1_5 (y0 y1 y2 y3 y4 y5 y6 y7 : Int32) : own_hor [y0, y1, y2, y3, y4, y5, y6, y7] 5 1 0 = own_T [y0, y1, y2, y3, y4, y5, y6, y7] 1 5 := by
  have l : own_hor [y0, y1, y2, y3, y4, y5, y6, y7] 5 1 0 = (10 * (10 * (10 * (10 * (10 * (0 : Int32) + (y1 - 48)) + (y2 - 48)) + (y3 - 48)) + (y4 - 48)) + (y5 - 48)) := rfl
  have r : own_T [y0, y1, y2, y3, y4, y5, y6, y7] 1 5 = ((((((((0 : Int32) + (y1 - 48) * 10000) + (y2 - 48) * 1000) + (y3 - 48) * 100) + (y4 - 48) * 10) + (y5 - 48) * 1) + (0 : Int32)) + (0 : Int32)) := rfl
  rw [l, r]
  clear l r
  grind
theorem own_case_1_6 (y0 y1 y2 y3 y4 y5 y6 y7 : Int32) : own_hor [y0, y1, y2, y3, y4, y5, y6, y7] 6 1 0 = own_T [y0, y1, y2, y3, y4, y5, y6, y7] 1 6 := by
  have l : own_hor [y0, y1, y2, y3, y4, y5, y6, y7] 6 1 0 = (10 * (10 * (10 * (10 * (10 * (10 * (0 : Int32) + (y1 - 48)) + (y2 - 48)) + (y3 - 48)) + (y4 - 48)) + (y5 - 48)) + (y6 - 48)) := rfl
  have r : own_T [y0, y1, y2, y3, y4, y5, y6, y7] 1 6 = ((((((((0 : Int32) + (y1 - 48) * 100000) + (y2 - 48) * 10000) + (y3 - 48) * 1000) + (y4 - 48) * 100) + (y5 - 48) * 10) + (y6 - 48) * 1) + (0 : Int32)) := rfl
  rw [l, r]
  clear l r
  grind
theorem own_case_1_7 (y0 y1 y2 y3 y4 y5 y6 y7 : Int32) : own_hor [y0, y1, y2, y3, y4, y5, y6, y7] 7 1 0 = own_T [y0, y1, y2, y3, y4, y5, y6, y7] 1 7 := by
  have l : own_hor [y0, y1, y2, y3, y4, y5, y6, y7] 7 1 0 = (10 * (10 * (10 * (10 * (10 * (10 * (10 * (0 : Int32) + (y1 - 48)) + (y2 - 48)) + (y3 - 48)) + (y4 - 48)) + (y5 - 48)) + (y6 - 48)) + (y7 - 48)) := rfl
  have r : own_T [y0, y1, y2, y3, y4, y5, y6, y7] 1 7 = ((((((((0 : Int32) + (y1 - 48) * 1000000) + (y2 - 48) * 100000) + (y3 - 48) * 10000) + (y4 - 48) * 1000) + (y5 - 48) * 100) + (y6 - 48) * 10) + (y7 - 48) * 1) := rfl
  rw [l, r]
  clear l r
  grind
theorem own_case_2_0 (y0 y1 y2 y3 y4 y5 y6 y7 : Int32) : own_hor [y0, y1, y2, y3, y4, y5, y6, y7] 0 2 0 = own_T [y0, y1, y2, y3, y4, y5, y6, y7] 2 0 := by
  rfl
theorem own_case_2_1 (y0 y1 y2 y3 y4 y5 y6 y7 : Int32) : own_hor [y0, y1, y2, y3, y4, y5, y6, y7] 1 2 0 = own_T [y0, y1, y2, y3, y4, y5, y6, y7] 2 1 := by
  have l : own_hor [y0, y1, y2, y3, y4, y5, y6, y7] 1 2 0 = (10 * (0 : Int32) + (y2 - 48)) := rfl
  have r : own_T [y0, y1, y2, y3, y4, y5, y6, y7] 2 1 = ((((((((0 : Int32) + (0 : Int32)) + (y2 - 48) * 1) + (0 : Int32)) + (0 : Int32)) + (0 : Int32)) + (0 : Int32)) + (0 : Int32)) := rfl
  rw [l, r]
  clear l r
  grind
theorem own_case_2_2 (y0 y1 y2 y3 y4 y5 y6 y7 : Int32) : own_hor [y0, y1, y2, y3, y4, y5, y6, y7] 2 2 0 = own_T [y0, y1, y2, y3, y4, y5, y6, y7] 2 2 := by
  have l : own_hor [y0, y1, y2, y3, y4, y5, y6, y7] 2 2 0 = (10 * (10 * (0 : Int32) + (y2 - 48)) + (y3 - 48)) := rfl
  have r : own_T [y0, y1, y2, y3, y4, y5, y6, y7] 2 2 = ((((((((0 : Int32) + (0 : Int32)) + (y2 - 48) * 10) + (y3 - 48) * 1) + (0 : Int32)) + (0 : Int32)) + (0 : Int32)) + (0 : Int32)) := rfl
  rw [l, r]
  clear l r
  grind
theorem own_case_2_3 (y0 y1 y2 y3 y4 y5 y6 y7 : Int32) : own_hor [y0, y1, y2, y3, y4, y5, y6, y7] 3 2 0 = own_T [y0, y1, y2, y3, y4, y5, y6, y7] 2 3 := by
  have l : own_hor [y0, y1, y2, y3, y4, y5, y6, y7] 3 2 0 = (10 * (10 * (10 * (0 : Int32) + (y2 - 48)) + (y3 - 48)) + (y4 - 48)) := rfl
  have r : own_T [y0, y1, y2, y3, y4, y5, y6, y7] 2 3 = ((((((((0 : Int32) + (0 : Int32)) + (y2 - 48) * 100) + (y3 - 48) * 10) + (y4 - 48) * 1) + (0 : Int32)) + (0 : Int32)) + (0 : Int32)) := rfl
  rw [l, r]
  clear l r
  grind
theorem own_case_2_4 (y0 y1 y2 y3 y4 y5 y6 y7 : Int32) : own_hor [y0, y1, y2, y3, y4, y5, y6, y7] 4 2 0 = own_T [y0, y1, y2, y3, y4, y5, y6, y7] 2 4 := by
  have l : own_hor [y0, y1, y2, y3, y4, y5, y6, y7] 4 2 0 = (10 * (10 * (10 * (10 * (0 : Int32) + (y2 - 48)) + (y3 - 48)) + (y4 - 48)) + (y5 - 48)) := rfl
  have r : own_T [y0, y1, y2, y3, y4, y5, y6, y7] 2 4 = ((((((((0 : Int32) + (0 : Int32)) + (y2 - 48) * 1000) + (y3 - 48) * 100) + (y4 - 48) * 10) + (y5 - 48) * 1) + (0 : Int32)) + (0 : Int32)) := rfl
  rw [l, r]
  clear l r
  grind
theorem own_case_2_5 (y0 y1 y2 y3 y4 y5 y6 y7 : Int32) : own_hor [y0, y1, y2, y3, y4, y5, y6, y7] 5 2 0 = own_T [y0, y1, y2, y3, y4, y5, y6, y7] 2 5 := by
  have l : own_hor [y0, y1, y2, y3, y4, y5, y6, y7] 5 2 0 = (10 * (10 * (10 * (10 * (10 * (0 : Int32) + (y2 - 48)) + (y3 - 48)) + (y4 - 48)) + (y5 - 48)) + (y6 - 48)) := rfl
  have r : own_T [y0, y1, y2, y3, y4, y5, y6, y7] 2 5 = ((((((((0 : Int32) + (0 : Int32)) + (y2 - 48) * 10000) + (y3 - 48) * 1000) + (y4 - 48) * 100) + (y5 - 48) * 10) + (y6 - 48) * 1) + (0 : Int32)) := rfl
  rw [l, r]
  clear l r
  grind
theorem own_case_2_6 (y0 y1 y2 y3 y4 y5 y6 y7 : Int32) : own_hor [y0, y1, y2, y3, y4, y5, y6, y7] 6 2 0 = own_T [y0, y1, y2, y3, y4, y5, y6, y7] 2 6 := by
  have l : own_hor [y0, y1, y2, y3, y4, y5, y6, y7] 6 2 0 = (10 * (10 * (10 * (10 * (10 * (10 * (0 : Int32) + (y2 - 48)) + (y3 - 48)) + (y4 - 48)) + (y5 - 48)) + (y6 - 48)) + (y7 - 48)) := rfl
  have r : own_T [y0, y1, y2, y3, y4, y5, y6, y7] 2 6 = ((((((((0 : Int32) + (0 : Int32)) + (y2 - 48) * 100000) + (y3 - 48) * 10000) + (y4 - 48) * 1000) + (y5 - 48) * 100) + (y6 - 48) * 10) + (y7 - 48) * 1) := rfl
  rw [l, r]
  clear l r
  grind
theorem own_case_3_0 (y0 y1 y2 y3 y4 y5 y6 y7 : Int32) : own_hor [y0, y1, y2, y3, y4, y5, y6, y7] 0 3 0 = own_T [y0, y1, y2, y3, y4, y5, y6, y7] 3 0 := by
  rfl
theorem own_case_3_1 (y0 y1 y2 y3 y4 y5 y6 y7 : Int32) : own_hor [y0, y1, y2, y3, y4, y5, y6, y7] 1 3 0 = own_T [y0, y1, y2, y3, y4, y5, y6, y7] 3 1 := by
  have l : own_hor [y0, y1, y2, y3, y4, y5, y6, y7] 1 3 0 = (10 * (0 : Int32) + (y3 - 48)) := rfl
  have r : own_T [y0, y1, y2, y3, y4, y5, y6, y7] 3 1 = ((((((((0 : Int32) + (0 : Int32)) + (0 : Int32)) + (y3 - 48) * 1) + (0 : Int32)) + (0 : Int32)) + (0 : Int32)) + (0 : Int32)) := rfl
  rw [l, r]
  clear l r
  grind
theorem own_case_3_2 (y0 y1 y2 y3 y4 y5 y6 y7 : Int32) : own_hor [y0, y1, y2, y3, y4, y5, y6, y7] 2 3 0 = own_T [y0, y1, y2, y3, y4, y5, y6, y7] 3 2 := by
  have l : own_hor [y0, y1, y2, y3, y4, y5, y6, y7] 2 3 0 = (10 * (10 * (0 : Int32) + (y3 - 48)) + (y4 - 48)) := rfl
  have r : own_T [y0, y1, y2, y3, y4, y5, y6, y7] 3 2 = ((((((((0 : Int32) + (0 : Int32)) + (0 : Int32)) + (y3 - 48) * 10) + (y4 - 48) * 1) + (0 : Int32)) + (0 : Int32)) + (0 : Int32)) := rfl
  rw [l, r]
  clear l r
  grind
theorem own_case_3_3 (y0 y1 y2 y3 y4 y5 y6 y7 : Int32) : own_hor [y0, y1, y2, y3, y4, y5, y6, y7] 3 3 0 = own_T [y0, y1, y2, y3, y4, y5, y6, y7] 3 3 := by
  have l : own_hor [y0, y1, y2, y3, y4, y5, y6, y7] 3 3 0 = (10 * (10 * (10 * (0 : Int32) + (y3 - 48)) + (y4 - 48)) + (y5 - 48)) := rfl
  have r : own_T [y0, y1, y2, y3, y4, y5, y6, y7] 3 3 = ((((((((0 : Int32) + (0 : Int32)) + (0 : Int32)) + (y3 - 48) * 100) + (y4 - 48) * 10) + (y5 - 48) * 1) + (0 : Int32)) + (0 : Int32)) := rfl
  rw [l, r]
  clear l r
  grind
theorem own_case_3_4 (y0 y1 y2 y3 y4 y5 y6 y7 : Int32) : own_hor [y0, y1, y2, y3, y4, y5, y6, y7] 4 3 0 = own_T [y0, y1, y2, y3, y4, y5, y6, y7] 3 4 := by
  have l : own_hor [y0, y1, y2, y3, y4, y5, y6, y7] 4 3 0 = (10 * (10 * (10 * (10 * (0 : Int32) + (y3 - 48)) + (y4 - 48)) + (y5 - 48)) + (y6 - 48)) := rfl
  have r : own_T [y0, y1, y2, y3, y4, y5, y6, y7] 3 4 = ((((((((0 : Int32) + (0 : Int32)) + (0 : Int32)) + (y3 - 48) * 1000) + (y4 - 48) * 100) + (y5 - 48) * 10) + (y6 - 48) * 1) + (0 : Int32)) := rfl
  rw [l, r]
  clear l r
  grind
theorem own_case_3_5 (y0 y1 y2 y3 y4 y5 y6 y7 : Int32) : own_hor [y0, y1, y2, y3, y4, y5, y6, y7] 5 3 0 = own_T [y0, y1, y2, y3, y4, y5, y6, y7] 3 5 := by
  have l : own_hor [y0, y1, y2, y3, y4, y5, y6, y7] 5 3 0 = (10 * (10 * (10 * (10 * (10 * (0 : Int32) + (y3 - 48)) + (y4 - 48)) + (y5 - 48)) + (y6 - 48)) + (y7 - 48)) := rfl
  have r : own_T [y0, y1, y2, y3, y4, y5, y6, y7] 3 5 = ((((((((0 : Int32) + (0 : Int32)) + (0 : Int32)) + (y3 - 48) * 10000) + (y4 - 48) * 1000) + (y5 - 48) * 100) + (y6 - 48) * 10) + (y7 - 48) * 1) := rfl
  rw [l, r]
  clear l r
  grind
theorem own_case_4_0 (y0 y1 y2 y3 y4 y5 y6 y7 : Int32) : own_hor [y0, y1, y2, y3, y4, y5, y6, y7] 0 4 0 = own_T [y0, y1, y2, y3, y4, y5, y6, y7] 4 0 := by
  rfl
theorem own_case_4_1 (y0 y1 y2 y3 y4 y5 y6 y7 : Int32) : own_hor [y0, y1, y2, y3, y4, y5, y6, y7] 1 4 0 = own_T [y0, y1, y2, y3, y4, y5, y6, y7] 4 1 := by
  have l : own_hor [y0, y1, y2, y3, y4, y5, y6, y7] 1 4 0 = (10 * (0 : Int32) + (y4 - 48)) := rfl
  have r : own_T [y0, y1, y2, y3, y4, y5, y6, y7] 4 1 = ((((((((0 : Int32) + (0 : Int32)) + (0 : Int32)) + (0 : Int32)) + (y4 - 48) * 1) + (0 : Int32)) + (0 : Int32)) + (0 : Int32)) := rfl
  rw [l, r]
  clear l r
  grind
theorem own_case_4_2 (y0 y1 y2 y3 y4 y5 y6 y7 : Int32) : own_hor [y0, y1, y2, y3, y4, y5, y6, y7] 2 4 0 = own_T [y0, y1, y2, y3, y4, y5, y6, y7] 4 2 := by
  have l : own_hor [y0, y1, y2, y3, y4, y5, y6, y7] 2 4 0 = (10 * (10 * (0 : Int32) + (y4 - 48)) + (y5 - 48)) := rfl
  have r : own_T [y0, y1, y2, y3, y4, y5, y6, y7] 4 2 = ((((((((0 : Int32) + (0 : Int32)) + (0 : Int32)) + (0 : Int32)) + (y4 - 48) * 10) + (y5 - 48) * 1) + (0 : Int32)) + (0 : Int32)) := rfl
  rw [l, r]
  clear l r
  grind
theorem own_case_4_3 (y0 y1 y2 y3 y4 y5 y6 y7 : Int32) : own_hor [y0, y1, y2, y3, y4, y5, y6, y7] 3 4 0 = own_T [y0, y1, y2, y3, y4, y5, y6, y7] 4 3 := by
  have l : own_hor [y0, y1, y2, y3, y4, y5, y6, y7] 3 4 0 = (10 * (10 * (10 * (0 : Int32) + (y4 - 48)) + (y5 - 48)) + (y6 - 48)) := rfl
  have r : own_T [y0, y1, y2, y3, y4, y5, y6, y7] 4 3 = ((((((((0 : Int32) + (0 : Int32)) + (0 : Int32)) + (0 : Int32)) + (y4 - 48) * 100) + (y5 - 48) * 10) + (y6 - 48) * 1) + (0 : Int32)) := rfl
  rw [l, r]
  clear l r
  grind
theorem own_case_4_4 (y0 y1 y2 y3 y4 y5 y6 y7 : Int32) : own_hor [y0, y1, y2, y3, y4, y5, y6, y7] 4 4 0 = own_T [y0, y1, y2, y3, y4, y5, y6, y7] 4 4 := by
  have l : own_hor [y0, y1, y2, y3, y4, y5, y6, y7] 4 4 0 = (10 * (10 * (10 * (10 * (0 : Int32) + (y4 - 48)) + (y5 - 48)) + (y6 - 48)) + (y7 - 48)) := rfl
  have r : own_T [y0, y1, y2, y3, y4, y5, y6, y7] 4 4 = ((((((((0 : Int32) + (0 : Int32)) + (0 : Int32)) + (0 : Int32)) + (y4 - 48) * 1000) + (y5 - 48) * 100) + (y6 - 48) * 10) + (y7 - 48) * 1) := rfl
  rw [l, r]
  clear l r
  grind
theorem own_case_5_0 (y0 y1 y2 y3 y4 y5 y6 y7 : Int32) : own_hor [y0, y1, y2, y3, y4, y5, y6, y7] 0 5 0 = own_T [y0, y1, y2, y3, y4, y5, y6, y7] 5 0 := by
  rfl
theorem own_case_5_1 (y0 y1 y2 y3 y4 y5 y6 y7 : Int32) : own_hor [y0, y1, y2, y3, y4, y5, y6, y7] 1 5 0 = own_T [y0, y1, y2, y3, y4, y5, y6, y7] 5 1 := by
  have l : own_hor [y0, y1, y2, y3, y4, y5, y6, y7] 1 5 0 = (10 * (0 : Int32) + (y5 - 48)) := rfl
  have r : own_T [y0, y1, y2, y3, y4, y5, y6, y7] 5 1 = ((((((((0 : Int32) + (0 : Int32)) + (0 : Int32)) + (0 : Int32)) + (0 : Int32)) + (y5 - 48) * 1) + (0 : Int32)) + (0 : Int32)) := rfl
  rw [l, r]
  clear l r
  grind
theorem own_case_5_2 (y0 y1 y2 y3 y4 y5 y6 y7 : Int32) : own_hor [y0, y1, y2, y3, y4, y5, y6, y7] 2 5 0 = own_T [y0, y1, y2, y3, y4, y5, y6, y7] 5 2 := by
  have l : own_hor [y0, y1, y2, y3, y4, y5, y6, y7] 2 5 0 = (10 * (10 * (0 : Int32) + (y5 - 48)) + (y6 - 48)) := rfl
  have r : own_T [y0, y1, y2, y3, y4, y5, y6, y7] 5 2 = ((((((((0 : Int32) + (0 : Int32)) + (0 : Int32)) + (0 : Int32)) + (0 : Int32)) + (y5 - 48) * 10) + (y6 - 48) * 1) + (0 : Int32)) := rfl
  rw [l, r]
  clear l r
  grind
theorem own_case_5_3 (y0 y1 y2 y3 y4 y5 y6 y7 : Int32) : own_hor [y0, y1, y2, y3, y4, y5, y6, y7] 3 5 0 = own_T [y0, y1, y2, y3, y4, y5, y6, y7] 5 3 := by
  have l : own_hor [y0, y1, y2, y3, y4, y5, y6, y7] 3 5 0 = (10 * (10 * (10 * (0 : Int32) + (y5 - 48)) + (y6 - 48)) + (y7 - 48)) := rfl
  have r : own_T [y0, y1, y2, y3, y4, y5, y6, y7] 5 3 = ((((((((0 : Int32) + (0 : Int32)) + (0 : Int32)) + (0 : Int32)) + (0 : Int32)) + (y5 - 48) * 100) + (y6 - 48) * 10) + (y7 - 48) * 1) := rfl
  rw [l, r]
  clear l r
  grind
theorem own_case_6_0 (y0 y1 y2 y3 y4 y5 y6 y7 : Int32) : own_hor [y0, y1, y2, y3, y4, y5, y6, y7] 0 6 0 = own_T [y0, y1, y2, y3, y4, y5, y6, y7] 6 0 := by
  rfl
theorem own_case_6_1 (y0 y1 y2 y3 y4 y5 y6 y7 : Int32) : own_hor [y0, y1, y2, y3, y4, y5, y6, y7] 1 6 0 = own_T [y0, y1, y2, y3, y4, y5, y6, y7] 6 1 := by
  have l : own_hor [y0, y1, y2, y3, y4, y5, y6, y7] 1 6 0 = (10 * (0 : Int32) + (y6 - 48)) := rfl
  have r : own_T [y0, y1, y2, y3, y4, y5, y6, y7] 6 1 = ((((((((0 : Int32) + (0 : Int32)) + (0 : Int32)) + (0 : Int32)) + (0 : Int32)) + (0 : Int32)) + (y6 - 48) * 1) + (0 : Int32)) := rfl
  rw [l, r]
  clear l r
  grind
theorem own_case_6_2 (y0 y1 y2 y3 y4 y5 y6 y7 : Int32) : own_hor [y0, y1, y2, y3, y4, y5, y6, y7] 2 6 0 = own_T [y0, y1, y2, y3, y4, y5, y6, y7] 6 2 := by
  have l : own_hor [y0, y1, y2, y3, y4, y5, y6, y7] 2 6 0 = (10 * (10 * (0 : Int32) + (y6 - 48)) + (y7 - 48)) := rfl
  have r : own_T [y0, y1, y2, y3, y4, y5, y6, y7] 6 2 = ((((((((0 : Int32) + (0 : Int32)) + (0 : Int32)) + (0 : Int32)) + (0 : Int32)) + (0 : Int32)) + (y6 - 48) * 10) + (y7 - 48) * 1) := rfl
  rw [l, r]
  clear l r
  grind
theorem own_case_7_0 (y0 y1 y2 y3 y4 y5 y6 y7 : Int32) : own_hor [y0, y1, y2, y3, y4, y5, y6, y7] 0 7 0 = own_T [y0, y1, y2, y3, y4, y5, y6, y7] 7 0 := by
  rfl
theorem own_case_7_1 (y0 y1 y2 y3 y4 y5 y6 y7 : Int32) : own_hor [y0, y1, y2, y3, y4, y5, y6, y7] 1 7 0 = own_T [y0, y1, y2, y3, y4, y5, y6, y7] 7 1 := by
  have l : own_hor [y0, y1, y2, y3, y4, y5, y6, y7] 1 7 0 = (10 * (0 : Int32) + (y7 - 48)) := rfl
  have r : own_T [y0, y1, y2, y3, y4, y5, y6, y7] 7 1 = ((((((((0 : Int32) + (0 : Int32)) + (0 : Int32)) + (0 : Int32)) + (0 : Int32)) + (0 : Int32)) + (0 : Int32)) + (y7 - 48) * 1) := rfl
  rw [l, r]
  clear l r
  grind
theorem own_case_8_0 (y0 y1 y2 y3 y4 y5 y6 y7 : Int32) : own_hor [y0, y1, y2, y3, y4, y5, y6, y7] 0 8 0 = own_T [y0, y1, y2, y3, y4, y5, y6, y7] 8 0 := by
  rfl
theorem own_cases (y0 y1 y2 y3 y4 y5 y6 y7 : Int32) (F C : Nat) (hFC : F + C ≤ 8) : own_hor [y0, y1, y2, y3, y4, y5, y6, y7] C F 0 = own_T [y0, y1, y2, y3, y4, y5, y6, y7] (Int32.ofNat F) (Int32.ofNat C) := by
  have hF : F = 0 ∨ F = 1 ∨ F = 2 ∨ F = 3 ∨ F = 4 ∨ F = 5 ∨ F = 6 ∨ F = 7 ∨ F = 8 := by omega
  rcases hF with rfl | rfl | rfl | rfl | rfl | rfl | rfl | rfl | rfl
  · have hC : C = 0 ∨ C = 1 ∨ C = 2 ∨ C = 3 ∨ C = 4 ∨ C = 5 ∨ C = 6 ∨ C = 7 ∨ C = 8 := by omega
    rcases hC with rfl | rfl | rfl | rfl | rfl | rfl | rfl | rfl | rfl
    · exact own_case_0_0 _ _ _ _ _ _ _ _
    · exact own_case_0_1 _ _ _ _ _ _ _ _
    · exact own_case_0_2 _ _ _ _ _ _ _ _
    · exact own_case_0_3 _ _ _ _ _ _ _ _
    · exact own_case_0_4 _ _ _ _ _ _ _ _
    · exact own_case_0_5 _ _ _ _ _ _ _ _
    · exact own_case_0_6 _ _ _ _ _ _ _ _
    · exact own_case_0_7 _ _ _ _ _ _ _ _
    · exact own_case_0_8 _ _ _ _ _ _ _ _
  · have hC : C = 0 ∨ C = 1 ∨ C = 2 ∨ C = 3 ∨ C = 4 ∨ C = 5 ∨ C = 6 ∨ C = 7 := by omega
    rcases hC with rfl | rfl | rfl | rfl | rfl | rfl | rfl | rfl
    · exact own_case_1_0 _ _ _ _ _ _ _ _
    · exact own_case_1_1 _ _ _ _ _ _ _ _
    · exact own_case_1_2 _ _ _ _ _ _ _ _
    · exact own_case_1_3 _ _ _ _ _ _ _ _
    · exact own_case_1_4 _ _ _ _ _ _ _ _
    · exact own_case_1_5 _ _ _ _ _ _ _ _
    · exact own_case_1_6 _ _ _ _ _ _ _ _
    · exact own_case_1_7 _ _ _ _ _ _ _ _
  · have hC : C = 0 ∨ C = 1 ∨ C = 2 ∨ C = 3 ∨ C = 4 ∨ C = 5 ∨ C = 6 := by omega
    rcases hC with rfl | rfl | rfl | rfl | rfl | rfl | rfl
    · exact own_case_2_0 _ _ _ _ _ _ _ _
    · exact own_case_2_1 _ _ _ _ _ _ _ _
    · exact own_case_2_2 _ _ _ _ _ _ _ _
    · exact own_case_2_3 _ _ _ _ _ _ _ _
    · exact own_case_2_4 _ _ _ _ _ _ _ _
    · exact own_case_2_5 _ _ _ _ _ _ _ _
    · exact own_case_2_6 _ _ _ _ _ _ _ _
  · have hC : C = 0 ∨ C = 1 ∨ C = 2 ∨ C = 3 ∨ C = 4 ∨ C = 5 := by omega
    rcases hC with rfl | rfl | rfl | rfl | rfl | rfl
    · exact own_case_3_0 _ _ _ _ _ _ _ _
    · exact own_case_3_1 _ _ _ _ _ _ _ _
    · exact own_case_3_2 _ _ _ _ _ _ _ _
    · exact own_case_3_3 _ _ _ _ _ _ _ _
    · exact own_case_3_4 _ _ _ _ _ _ _ _
    · exact own_case_3_5 _ _ _ _ _ _ _ _
  · have hC : C = 0 ∨ C = 1 ∨ C = 2 ∨ C = 3 ∨ C = 4 := by omega
    rcases hC with rfl | rfl | rfl | rfl | rfl
    · exact own_case_4_0 _ _ _ _ _ _ _ _
    · exact own_case_4_1 _ _ _ _ _ _ _ _
    · exact own_case_4_2 _ _ _ _ _ _ _ _
    · exact own_case_4_3 _ _ _ _ _ _ _ _
    · exact own_case_4_4 _ _ _ _ _ _ _ _
  · have hC : C = 0 ∨ C = 1 ∨ C = 2 ∨ C = 3 := by omega
    rcases hC with rfl | rfl | rfl | rfl
    · exact own_case_5_0 _ _ _ _ _ _ _ _
    · exact own_case_5_1 _ _ _ _ _ _ _ _
    · exact own_case_5_2 _ _ _ _ _ _ _ _
    · exact own_case_5_3 _ _ _ _ _ _ _ _
  · have hC : C = 0 ∨ C = 1 ∨ C = 2 := by omega
    rcases hC with rfl | rfl | rfl
    · exact own_case_6_0 _ _ _ _ _ _ _ _
    · exact own_case_6_1 _ _ _ _ _ _ _ _
    · exact own_case_6_2 _ _ _ _ _ _ _ _
  · have hC : C = 0 ∨ C = 1 := by omega
    rcases hC with rfl | rfl
    · exact own_case_7_0 _ _ _ _ _ _ _ _
    · exact own_case_7_1 _ _ _ _ _ _ _ _
  · have hC : C = 0 := by omega
    subst hC
    exact own_case_8_0 _ _ _ _ _ _ _ _
theorem own_lit {x : Int32} (h : 0 ≤ x.toInt ∧ x.toInt ≤ 8) : x = Int32.ofNat x.toInt.toNat := by
  apply Int32.toInt_inj.mp
  rw [Int32.toInt_ofNat_of_lt (by omega)]
  omega
theorem own_fin (y0 y1 y2 y3 y4 y5 y6 y7 f c : Int32) (hb : ∀ k, own_byte ([y0, y1, y2, y3, y4, y5, y6, y7].getD k 0)) (h : own_small f c) : own_ans [y0, y1, y2, y3, y4, y5, y6, y7] f c = 1 := by
  have hs := h
  have e8 := own_sum8 h
  obtain ⟨h1, h2, h3⟩ := h
  unfold own_ans
  by_cases hall : ∀ k : Nat, f.toInt ≤ (k : Int) → (k : Int) < f.toInt + c.toInt → own_dig ([y0, y1, y2, y3, y4, y5, y6, y7].getD k 0)
  · have e := own_cases y0 y1 y2 y3 y4 y5 y6 y7 f.toInt.toNat c.toInt.toNat (by omega)
    rw [← own_lit (x := f) (by omega), ← own_lit (x := c) (by omega)] at e
    have g : own_f4 [y0, y1, y2, y3, y4, y5, y6, y7] f c = own_hor [y0, y1, y2, y3, y4, y5, y6, y7] c.toInt.toNat f.toInt.toNat 0 := by
      have q := own_good [y0, y1, y2, y3, y4, y5, y6, y7] f c (f.toInt + c.toInt).toNat (by omega) (by omega) hb 9 f.toInt.toNat 0 (by omega) (by omega) (fun k k1 k2 => hall k (by omega) (by omega))
      rw [← own_lit (x := f) (by omega), show (f.toInt + c.toInt).toNat - f.toInt.toNat = c.toInt.toNat from by omega] at q
      exact q
    rw [g, e]
    exact own_pkT _ _ _ _ _ _ _ _ _ (own_f2T hs 0 rfl (by decide) (hall 0)) (own_f2T hs 1 rfl (by decide) (hall 1)) (own_f2T hs 2 rfl (by decide) (hall 2)) (own_f2T hs 3 rfl (by decide) (hall 3)) (own_f2T hs 4 rfl (by decide) (hall 4)) (own_f2T hs 5 rfl (by decide) (hall 5)) (own_f2T hs 6 rfl (by decide) (hall 6)) (own_f2T hs 7 rfl (by decide) (hall 7))
  · obtain ⟨k, k1, k2, k3⟩ : ∃ k : Nat, f.toInt ≤ (k : Int) ∧ (k : Int) < f.toInt + c.toInt ∧ ¬ own_dig ([y0, y1, y2, y3, y4, y5, y6, y7].getD k 0) := by
      apply Classical.byContradiction
      intro q
      apply hall
      intro k k1 k2
      apply Classical.byContradiction
      intro k3
      exact q ⟨k, k1, k2, k3⟩
    have e : own_f4 [y0, y1, y2, y3, y4, y5, y6, y7] f c = -1 := by
      have q := own_bad [y0, y1, y2, y3, y4, y5, y6, y7] f c (f.toInt + c.toInt).toNat (by omega) (by omega) hb 9 f.toInt.toNat 0 (by omega) (by omega) ⟨k, by omega, by omega, k3⟩
      rw [← own_lit (x := f) (by omega)] at q
      exact q
    rw [e]
    apply own_pkF
    have hk : k = 0 ∨ k = 1 ∨ k = 2 ∨ k = 3 ∨ k = 4 ∨ k = 5 ∨ k = 6 ∨ k = 7 := by omega
    rcases hk with rfl | rfl | rfl | rfl | rfl | rfl | rfl | rfl
    · exact Or.inl (own_f2F hs 0 rfl (by decide) k1 k2 k3)
    · exact Or.inr (Or.inl (own_f2F hs 1 rfl (by decide) k1 k2 k3))
    · exact Or.inr (Or.inr (Or.inl (own_f2F hs 2 rfl (by decide) k1 k2 k3)))
    · exact Or.inr (Or.inr (Or.inr (Or.inl (own_f2F hs 3 rfl (by decide) k1 k2 k3))))
    · exact Or.inr (Or.inr (Or.inr (Or.inr (Or.inl (own_f2F hs 4 rfl (by decide) k1 k2 k3)))))
    · exact Or.inr (Or.inr (Or.inr (Or.inr (Or.inr (Or.inl (own_f2F hs 5 rfl (by decide) k1 k2 k3))))))
    · exact Or.inr (Or.inr (Or.inr (Or.inr (Or.inr (Or.inr (Or.inl (own_f2F hs 6 rfl (by decide) k1 k2 k3)))))))
    · exact Or.inr (Or.inr (Or.inr (Or.inr (Or.inr (Or.inr (Or.inr (own_f2F hs 7 rfl (by decide) k1 k2 k3)))))))
theorem own_bytes8 (x0 x1 x2 x3 x4 x5 x6 x7 : Int32) : ∀ k, own_byte ([nar .byte x0, nar .byte x1, nar .byte x2, nar .byte x3, nar .byte x4, nar .byte x5, nar .byte x6, nar .byte x7].getD k 0) := by
  intro k
  match k with
  | 0 => exact own_nar _
  | 1 => exact own_nar _
  | 2 => exact own_nar _
  | 3 => exact own_nar _
  | 4 => exact own_nar _
  | 5 => exact own_nar _
  | 6 => exact own_nar _
  | 7 => exact own_nar _
  | k + 8 => exact (show own_byte 0 from ⟨by decide, by decide⟩)
theorem own_law (q0 : Int64) (p1 : Int32) (p2 : Int32) (p3 : Int32) : own_f0 q0 p1 p2 p3 = 1 := by
  have k10 : ¬ (1 : Int32) = 0 := by decide
  have h := own_fin _ _ _ _ _ _ _ _ _ _ (own_bytes8 (own_f1 q0 p3 0) (own_f1 q0 p3 1) (own_f1 q0 p3 2) (own_f1 q0 p3 3) (own_f1 q0 p3 4) (own_f1 q0 p3 5) (own_f1 q0 p3 6) (own_f1 q0 p3 7)) (own_from (own_first p1) p2)
  unfold own_ans own_pk own_T at h
  unfold own_f0
  simp only [own_f0_229, own_f0_230, own_f0_334, k10, ↓reduceIte]
  exact h
set_option maxRecDepth 65536 in
set_option maxHeartbeats 40000000 in
theorem comes_1 {Post : Tables → Env → Array Value → State → Outcome → State → Prop} (hpost : ∀ tb e args s v u, (limb_1_1.after args s (.returned v) u = true ∧ limb_1_2.after args s (.returned v) u = true ∧ True) → FrameEnd s (.returned v) u (Jvm.fieldLocs frame_1_writes args s ++ Jvm.arrayLocs frame_1_arrays args s ++ Jvm.staticLocs frame_1_statics s) 16 128 → Post tb e args s (.returned v) u) :
    ArmFor flags0 classFile x code maxLocals ret World_1 tables_1 room_1 Calls_1 rest_1 Pre_1 Post := by
  intro l hfl _ _ p e ha hc hk s m args below hf hA hF happ hP
  obtain ⟨hcalls, hrest, hpre⟩ := hP
  obtain ⟨-, -, -, hnamed, -, -, -, hat⟩ := (Spec.applies_iff hf).mp happ
  obtain ⟨hg, hn⟩ := and_e (Cond.before_iff.mp (show (Jvm.Cond.and given_1 narrow_1).before args s = true from hpre))
  obtain ⟨g1, g2⟩ := and_e hg
  obtain ⟨g3, g4⟩ := and_e g2
  obtain ⟨g5, g6⟩ := and_e g4
  obtain ⟨g7, g8⟩ := and_e g6
  obtain ⟨w0, w1, w2, w3, rfl⟩ : ∃ w0 w1 w2 w3 : Value, args = #[w0, w1, w2, w3] := by
    have hs : args.size = 4 := by simpa [Cond.value, given_1] using g1
    obtain ⟨L⟩ := args
    match L, hs with
    | [w0, w1, w2, w3], _ => exact ⟨w0, w1, w2, w3, rfl⟩
  have hw := fun d (hd : d ∈ tables_1) => atoms_spec (ws := Jvm.Cond.code x code maxLocals ret :: tables_1) hat d (List.mem_cons_of_mem _ hd)
  obtain ⟨i0, ei0⟩ := isL_v g3
  obtain rfl : w0 = (.long i0) := Option.some.inj ei0
  obtain ⟨i1, ei1⟩ := is_v g5
  obtain rfl : w1 = (.int i1) := Option.some.inj ei1
  obtain ⟨i2, ei2⟩ := is_v g7
  obtain rfl : w2 = (.int i2) := Option.some.inj ei2
  obtain ⟨i3, ei3⟩ := is_v g8
  obtain rfl : w3 = (.int i3) := Option.some.inj ei3
  have hrm := rm0 l s _ hw tables_1 i0 i1 i2 i3 s.heap s.heap.size (Nat.le_refl _)
  rw [own_law i0 i1 i2 i3] at hrm
  obtain ⟨n, o, h1, h2, h3, _, L, rfl, ⟨rfl, N⟩, hq⟩ := hrm p e ha hc hk s m _ below hf ((Spec.applies_iff_loose hf).mp happ).1 ⟨rfl, State.Warmed39.refl s, rfl⟩ trivial
  refine ⟨n, _, h1, h2, h3, hpost _ _ _ _ _ _ ⟨Cond.after_iff.mpr rfl, Cond.after_iff.mpr (eq_i res_at (Term.int_eval (1)) rfl), trivial⟩ ⟨hq.1, hq.2.1, (hq.2.2.sift fun y hy => Or.inr (N y hy)).mono (by decide) (by decide)⟩⟩
theorem main_1_1 : Claimed_1_1 := comes_1 fun _ _ _ _ _ _ h hF => ⟨h.1, hF⟩
theorem main_1_2 : Claimed_1_2 := comes_1 fun _ _ _ _ _ _ h hF => ⟨h.2.1, hF⟩
end Jvm.Pilot.@@N@@
namespace Jvm.Pilot.@@N@@
open Jvm Jvm.ClassFile Sem Op Lib Jvm.Free Jvm.Stand Jvm.Pilot.@@N@@.Jvm.D
/-! MADE BY PROGRAM (witnessworld.py) out of the Statement's table words and the real class files: 12 classes; the members and pool entries that the words name. The judged class is class 1, her method 1. -/
namespace start1
open Jvm.ClassFile
def u (s : String) : CpInfo := .utf8 (stringToUtf16 s)
/-- a pool by its gaps: so many unusable entries, then the entry; so many at the end -/
def gap : Nat → List CpInfo → List CpInfo
  | 0, r => r
  | n + 1, r => .unusable :: gap n r
def poolList (es : List (Nat × CpInfo)) (last : Nat) : List CpInfo := es.foldr (fun e r => gap e.1 (e.2 :: r)) (gap last [])
def pool (es : List (Nat × CpInfo)) (last : Nat) : Array CpInfo := ⟨poolList es last⟩
def fileOf (pool : Array CpInfo) (this : Nat) (attrs : Array Attribute := #[]) (ms : Array MethodInfo := #[]) (fl : Nat := 33) (sup : Nat := 0) (ifs : Array Nat := #[]) (fds : Array FieldInfo := #[]) : ClassFile where
  minorVersion := 0
  majorVersion := 65
  constantPool := pool
  accessFlags := fl
  thisClass := this
  superClass := sup
  interfaces := ifs
  fields := fds
  methods := ms
  attributes := attrs
def plain (name : String) (sup : Option ClassId) : Class where
  name := name
  kind := .ordinary
  loader := none
  accessFlags := 33
  super := sup
  interfaces := #[]
  cf := none
  fields := #[]
  methods := #[]
  instanceTypes := #[]
  staticTypes := #[]
  resolved := #[]
  callSites := []
  init := .initialized
  statics := none
  mirror := none

def pool0 : Array CpInfo := pool [(5, u "<init>"), (0, u "()V"), (1, .class_ 10), (1, u "java/lang/Object")] 113

def k0m0 : Method := { name := "<init>", desc := "()V", sig := { parameters := [], returnType := none }, accessFlags := 1, code := none }
/-- java/lang/Object -/
def k0 : Class := { plain "java/lang/Object" none with
  accessFlags := 33
  interfaces := #[]
  cf := some (fileOf pool0 8 #[] #[{ accessFlags := 1, nameIndex := 5, descriptorIndex := 6, attributes := #[] }] 33 0 #[] #[])
  fields := #[]
  methods := #[k0m0]
  instanceTypes := #[]
  staticTypes := #[]
  resolved := Array.replicate 124 none
  statics := none }

def pool1 : Array CpInfo := pool [(2, .class_ 4), (1, u "java/lang/Object"), (0, u "<init>"), (0, u "()V"), (0, .methodref 8 9), (0, .class_ 10), (0, .nameAndType 11 12), (0, u "com/example/kolektyv/kolektyv/records/Iso2709ReaderDigitsPinLaw"), (0, u "at"), (0, u "(JII)B"), (0, .integer 2147483647), (0, .methodref 8 15), (0, .nameAndType 16 17), (0, u "ok"), (0, u "([BIII)Z"), (0, .methodref 8 19), (0, .nameAndType 20 21), (0, u "term"), (0, u "([BIII)I"), (0, .methodref 23 24), (0, .class_ 25), (0, .nameAndType 26 27), (0, u "com/example/kolektyv/kolektyv/records/Iso2709Reader"), (0, u "digits"), (0, u "([BII)I"), (0, .long 255), (1, .methodref 8 31), (0, .nameAndType 32 33), (0, u "inside"), (0, u "(III)Z"), (0, .methodref 8 35), (0, .nameAndType 36 37), (0, u "pow10"), (0, u "(I)I"), (0, .integer 100000), (0, .integer 1000000), (0, .integer 10000000), (2, u "law"), (0, u "(JIII)Z")] 5

def k1m0 : Method := { name := "<init>", desc := "()V", sig := { parameters := [], returnType := none }, accessFlags := 1, code := none }
def k1c1 : Code := { maxStack := 6, maxLocals := 10, code := code, exceptionTable := #[], attributes := #[] }
def k1m1 : Method := { name := "law", desc := "(JIII)Z", sig := { parameters := [.long, .int, .int, .int], returnType := some .boolean }, accessFlags := 9, code := some k1c1 }
def k1c2 : Code := { maxStack := 4, maxLocals := 5, code := method_3_code, exceptionTable := #[], attributes := #[] }
def k1m2 : Method := { name := "at", desc := "(JII)B", sig := { parameters := [.long, .int, .int], returnType := some .byte }, accessFlags := 10, code := some k1c2 }
def k1c3 : Code := { maxStack := 3, maxLocals := 3, code := method_4_code, exceptionTable := #[], attributes := #[] }
def k1m3 : Method := { name := "inside", desc := "(III)Z", sig := { parameters := [.int, .int, .int], returnType := some .boolean }, accessFlags := 10, code := some k1c3 }
def k1c4 : Code := { maxStack := 3, maxLocals := 4, code := method_5_code, exceptionTable := #[], attributes := #[] }
def k1m4 : Method := { name := "ok", desc := "([BIII)Z", sig := { parameters := [(.array .byte), .int, .int, .int], returnType := some .boolean }, accessFlags := 10, code := some k1c4 }
def k1c5 : Code := { maxStack := 3, maxLocals := 4, code := method_6_code, exceptionTable := #[], attributes := #[] }
def k1m5 : Method := { name := "term", desc := "([BIII)I", sig := { parameters := [(.array .byte), .int, .int, .int], returnType := some .int }, accessFlags := 10, code := some k1c5 }
def k1c6 : Code := { maxStack := 2, maxLocals := 1, code := method_7_code, exceptionTable := #[], attributes := #[] }
def k1m6 : Method := { name := "pow10", desc := "(I)I", sig := { parameters := [.int], returnType := some .int }, accessFlags := 10, code := some k1c6 }
/-- com/example/kolektyv/kolektyv/records/Iso2709ReaderDigitsPinLaw -/
def k1 : Class := { plain "com/example/kolektyv/kolektyv/records/Iso2709ReaderDigitsPinLaw" (some 0) with
  accessFlags := 49
  interfaces := #[]
  cf := some (fileOf pool1 8 #[] #[{ accessFlags := 1, nameIndex := 5, descriptorIndex := 6, attributes := #[] }, { accessFlags := 9, nameIndex := 43, descriptorIndex := 44, attributes := #[] }, { accessFlags := 10, nameIndex := 11, descriptorIndex := 12, attributes := #[] }, { accessFlags := 10, nameIndex := 32, descriptorIndex := 33, attributes := #[] }, { accessFlags := 10, nameIndex := 16, descriptorIndex := 17, attributes := #[] }, { accessFlags := 10, nameIndex := 20, descriptorIndex := 21, attributes := #[] }, { accessFlags := 10, nameIndex := 36, descriptorIndex := 37, attributes := #[] }] 49 2 #[] #[])
  fields := #[]
  methods := #[k1m0, k1m1, k1m2, k1m3, k1m4, k1m5, k1m6]
  instanceTypes := #[]
  staticTypes := #[]
  resolved := Array.replicate 50 none
  statics := none }

def pool2 : Array CpInfo := pool [(1, .class_ 2), (0, u "java/lang/AutoCloseable"), (0, .class_ 4), (0, u "java/lang/Object")] 7

/-- java/lang/AutoCloseable -/
def k2 : Class := { plain "java/lang/AutoCloseable" (some 0) with
  accessFlags := 1537
  interfaces := #[]
  cf := some (fileOf pool2 1 #[] #[] 1537 3 #[] #[])
  fields := #[]
  methods := #[]
  instanceTypes := #[]
  staticTypes := #[]
  resolved := Array.replicate 12 none
  statics := none }

def pool3 : Array CpInfo := pool [(1, .class_ 2), (0, u "java/io/Closeable"), (0, .class_ 4), (0, u "java/lang/Object"), (0, .class_ 6), (0, u "java/lang/AutoCloseable")] 7

/-- java/io/Closeable -/
def k3 : Class := { plain "java/io/Closeable" (some 0) with
  accessFlags := 1537
  interfaces := #[2]
  cf := some (fileOf pool3 1 #[] #[] 1537 3 #[5] #[])
  fields := #[]
  methods := #[]
  instanceTypes := #[]
  staticTypes := #[]
  resolved := Array.replicate 14 none
  statics := none }

def pool4 : Array CpInfo := pool [(1, .class_ 2), (0, u "com/example/kolektyv/kolektyv/records/RecordReader"), (0, .class_ 4), (0, u "java/lang/Object"), (0, .class_ 6), (0, u "java/io/Closeable")] 9

/-- com/example/kolektyv/kolektyv/records/RecordReader -/
def k4 : Class := { plain "com/example/kolektyv/kolektyv/records/RecordReader" (some 0) with
  accessFlags := 1537
  interfaces := #[3]
  cf := some (fileOf pool4 1 #[] #[] 1537 3 #[5] #[])
  fields := #[]
  methods := #[]
  instanceTypes := #[]
  staticTypes := #[]
  resolved := Array.replicate 16 none
  statics := none }

def pool5 : Array CpInfo := pool [(6, .class_ 8), (1, u "com/example/kolektyv/kolektyv/records/Iso2709Reader"), (3, .class_ 14), (1, u "java/lang/Object"), (9, u "input"), (0, u "Lcom/example/kolektyv/kolektyv/records/DelimitedInput;"), (2, u "tags"), (0, u "Ljava/util/function/Predicate;"), (7, u "decoder"), (0, u "Lcom/example/kolektyv/kolektyv/records/Iso2709Decoder;"), (15, u "records"), (0, u "Lcom/example/kolektyv/kolektyv/records/BatchedRecords;"), (3, .class_ 60), (0, u "com/example/kolektyv/kolektyv/records/Iso2709Reader$Framed"), (53, .class_ 115), (0, u "com/example/kolektyv/kolektyv/records/RecordReader"), (0, u "MAX_RECORD_LENGTH"), (0, u "I"), (1, u "RECORD_TERMINATOR"), (0, u "B"), (1, u "FIELD_TERMINATOR"), (19, u "digits"), (0, u "([BII)I")] 57

def k5c0 : Code := { maxStack := 3, maxLocals := 6, code := prog_24_method_7_code, exceptionTable := #[], attributes := #[] }
def k5m0 : Method := { name := "digits", desc := "([BII)I", sig := { parameters := [(.array .byte), .int, .int], returnType := some .int }, accessFlags := 8, code := some k5c0 }
/-- com/example/kolektyv/kolektyv/records/Iso2709Reader -/
def k5 : Class := { plain "com/example/kolektyv/kolektyv/records/Iso2709Reader" (some 0) with
  accessFlags := 49
  interfaces := #[4]
  cf := some (fileOf pool5 6 #[.nestMembers #[59]] #[{ accessFlags := 8, nameIndex := 142, descriptorIndex := 143, attributes := #[] }] 49 12 #[114] #[{ accessFlags := 25, nameIndex := 116, descriptorIndex := 117, attributes := #[] }, { accessFlags := 24, nameIndex := 119, descriptorIndex := 120, attributes := #[] }, { accessFlags := 24, nameIndex := 122, descriptorIndex := 120, attributes := #[] }, { accessFlags := 18, nameIndex := 24, descriptorIndex := 25, attributes := #[] }, { accessFlags := 18, nameIndex := 28, descriptorIndex := 29, attributes := #[] }, { accessFlags := 18, nameIndex := 37, descriptorIndex := 38, attributes := #[] }, { accessFlags := 18, nameIndex := 54, descriptorIndex := 55, attributes := #[] }])
  fields := #[{ name := "MAX_RECORD_LENGTH", type := .int, accessFlags := 25, slot := 0, constantValue := 0 }, { name := "RECORD_TERMINATOR", type := .byte, accessFlags := 24, slot := 1, constantValue := 0 }, { name := "FIELD_TERMINATOR", type := .byte, accessFlags := 24, slot := 2, constantValue := 0 }, { name := "input", type := (.object "com/example/kolektyv/kolektyv/records/DelimitedInput"), accessFlags := 18, slot := 0, constantValue := 0 }, { name := "tags", type := (.object "java/util/function/Predicate"), accessFlags := 18, slot := 1, constantValue := 0 }, { name := "decoder", type := (.object "com/example/kolektyv/kolektyv/records/Iso2709Decoder"), accessFlags := 18, slot := 2, constantValue := 0 }, { name := "records", type := (.object "com/example/kolektyv/kolektyv/records/BatchedRecords"), accessFlags := 18, slot := 3, constantValue := 0 }]
  methods := #[k5m0]
  instanceTypes := #[(.object "com/example/kolektyv/kolektyv/records/DelimitedInput"), (.object "java/util/function/Predicate"), (.object "com/example/kolektyv/kolektyv/records/Iso2709Decoder"), (.object "com/example/kolektyv/kolektyv/records/BatchedRecords")]
  staticTypes := #[.int, .byte, .byte]
  resolved := Array.replicate 201 none
  statics := none }

def pool6 : Array CpInfo := pool [(1, u "java/lang/Cloneable"), (0, .class_ 1), (0, u "java/lang/Object"), (0, .class_ 3)] 3

/-- java/lang/Cloneable -/
def k6 : Class := { plain "java/lang/Cloneable" (some 0) with
  accessFlags := 1537
  interfaces := #[]
  cf := some (fileOf pool6 2 #[] #[] 1537 4 #[] #[])
  fields := #[]
  methods := #[]
  instanceTypes := #[]
  staticTypes := #[]
  resolved := Array.replicate 8 none
  statics := none }

def pool7 : Array CpInfo := pool [(1, u "java/io/Serializable"), (0, .class_ 1), (0, u "java/lang/Object"), (0, .class_ 3)] 3

/-- java/io/Serializable -/
def k7 : Class := { plain "java/io/Serializable" (some 0) with
  accessFlags := 1537
  interfaces := #[]
  cf := some (fileOf pool7 2 #[] #[] 1537 4 #[] #[])
  fields := #[]
  methods := #[]
  instanceTypes := #[]
  staticTypes := #[]
  resolved := Array.replicate 8 none
  statics := none }

/-- the primitive byte -/
def k8 : Class := { plain "byte" none with kind := .primitive 'B', accessFlags := 0x411 }
/-- [B -/
def k9 : Class := { plain "[B" (some 0) with kind := .array 8 .byte, interfaces := #[6, 7], accessFlags := 1041 }

/-- the primitive int -/
def k10 : Class := { plain "int" none with kind := .primitive 'I', accessFlags := 0x411 }
/-- [I -/
def k11 : Class := { plain "[I" (some 0) with kind := .array 10 .int, interfaces := #[6, 7], accessFlags := 1041 }

def heap : Heap := #[]
def classes : Array Class := #[k0, k1, k2, k3, k4, k5, k6, k7, k8, k9, k10, k11]
def interned : List (Array UInt16 × Addr) := []
def slotsUsed : Nat := 0
def theMethod : MethodId := ⟨1, 1⟩
def args0 : Array Value := #[.long 1, .int 2, .int 1, .int 1]
def aboutOver (below : List Frame) : State where
  vm := { classes := classes, interned := interned.toArray }
  heap := heap
  slotsUsed := slotsUsed
  threads := #[{ frames := .invoking theMethod args0 :: below }]
def below0 : List Frame := [.native { method := ⟨0, 0⟩, args := #[] }]
def about1 : State := aboutOver below0
def p0 : Program := .bare "" "" ""
def e0 : Env := launch0.env 0 0 0
theorem w_frames : about1.frames = Frame.invoking theMethod args0 :: below0 := rfl
set_option maxRecDepth 65536 in
theorem w_args : argsFit about1.vm theMethod args0 = true := by decide +kernel
set_option maxRecDepth 65536 in
theorem w_heap : heapFits about1 = true := by decide +kernel
set_option maxRecDepth 65536 in
theorem w_runnable : about1.curStatus? = some .runnable := by decide +kernel
set_option maxRecDepth 65536 in
theorem w_alone : about1.alone = true := by decide +kernel
set_option maxRecDepth 65536 in
theorem w_named : about1.methodNamed? x = some theMethod := by decide +kernel
set_option maxRecDepth 65536 in
theorem w_hears : about1.hears theMethod below0 = true := by decide +kernel
set_option maxRecDepth 65536 in
theorem w_ripe : about1.ripe theMethod args0 below0 = true := by decide +kernel
theorem w_running : about1.status = .running := rfl
set_option maxRecDepth 65536 in
theorem w_room : about1.hasRoom e0.platform room_1 = true :=
  launch0.hasRoom_least _ room_1 (by decide +kernel) (by decide +kernel) (by decide +kernel) (by decide +kernel) (by decide +kernel) (by decide +kernel)
theorem allAtoms_all (ts : List Jvm.Cond) (a : Array Jvm.Value) (st : Jvm.State) : (allAtoms ts).before a st = ts.all (fun c => c.before a st) := by
  induction ts with
  | nil => rfl
  | cons c t ih =>
    show (Jvm.Cond.and c (allAtoms t)).before a st = _
    rw [Jvm.Cond.before_and, ih, List.all_cons]
def words1 : List Jvm.Cond := Jvm.Cond.code x code maxLocals ret :: tables_1
/-- a 'code' word, met by the world's own term for the bytes: nothing is compared byte by byte -/
theorem code_word {y : MethodName} {bytes : ByteArray} {mx : Nat} {rt : Option FieldType} {a : Array Value} {s : State} {m : MethodId} {meth : Method} {c : Code} (h1 : s.methodNamed? y = some m) (h2 : s.vm.method? m = some meth) (h3 : meth.code = some c) (h4 : c.code = bytes)
    (h5 : (c.maxLocals == mx && c.exceptionTable.isEmpty && decide (c.maxStack ≤ mostOperands) && decide (meth.sig.returnType = rt) && !meth.locks && decide (parseMethodDescriptor y.desc = some meth.sig)) = true) : (Jvm.Cond.code y bytes mx rt).before a s = true := by
  simp only [Bool.and_eq_true, beq_iff_eq, Bool.not_eq_true', decide_eq_true_eq] at h5
  obtain ⟨⟨⟨⟨⟨g1, g2⟩, g3⟩, g4⟩, g5⟩, g6⟩ := h5
  simp [Cond.before, Cond.holds, Cond.value, h1, h2, h3, h4, g1, g2, g3, g4, g5, g6]
def isCode : Jvm.Cond → Bool
  | .code _ _ _ _ => true
  | _ => false
theorem all_split {L : List Jvm.Cond} {P : Jvm.Cond → Bool} (h1 : L.all (fun c => isCode c || P c) = true) (h2 : ∀ c ∈ L.filter isCode, P c = true) : L.all P = true := by
  refine List.all_eq_true.mpr fun c hc => ?_
  have h := List.all_eq_true.mp h1 c hc
  rcases Bool.eq_false_or_eq_true (isCode c) with hi | hi
  · exact h2 c (List.mem_filter.mpr ⟨hc, hi⟩)
  · simpa [hi] using h
set_option maxRecDepth 65536 in
theorem w_c0 : (Jvm.Cond.code x code maxLocals ret).before args0 about1 = true := code_word (m := ⟨1, 1⟩) (meth := k1m1) (c := k1c1) (by decide +kernel) rfl rfl rfl (by decide +kernel)
set_option maxRecDepth 65536 in
theorem w_c1 : (Jvm.Cond.code ({ cls := "com/example/kolektyv/kolektyv/records/Iso2709ReaderDigitsPinLaw", name := "at", desc := "(JII)B" } : Jvm.MethodName) method_3_code (5 : Nat) (Option.some Jvm.ClassFile.FieldType.byte)).before args0 about1 = true := code_word (m := ⟨1, 2⟩) (meth := k1m2) (c := k1c2) (by decide +kernel) rfl rfl rfl (by decide +kernel)
set_option maxRecDepth 65536 in
theorem w_c2 : (Jvm.Cond.code ({ cls := "com/example/kolektyv/kolektyv/records/Iso2709ReaderDigitsPinLaw", name := "ok", desc := "([BIII)Z" } : Jvm.MethodName) method_5_code (4 : Nat) (Option.some Jvm.ClassFile.FieldType.boolean)).before args0 about1 = true := code_word (m := ⟨1, 4⟩) (meth := k1m4) (c := k1c4) (by decide +kernel) rfl rfl rfl (by decide +kernel)
set_option maxRecDepth 65536 in
theorem w_c3 : (Jvm.Cond.code ({ cls := "com/example/kolektyv/kolektyv/records/Iso2709ReaderDigitsPinLaw", name := "inside", desc := "(III)Z" } : Jvm.MethodName) method_4_code (3 : Nat) (Option.some Jvm.ClassFile.FieldType.boolean)).before args0 about1 = true := code_word (m := ⟨1, 3⟩) (meth := k1m3) (c := k1c3) (by decide +kernel) rfl rfl rfl (by decide +kernel)
set_option maxRecDepth 65536 in
theorem w_c4 : (Jvm.Cond.code ({ cls := "com/example/kolektyv/kolektyv/records/Iso2709Reader", name := "digits", desc := "([BII)I" } : Jvm.MethodName) prog_24_method_7_code (6 : Nat) (Option.some Jvm.ClassFile.FieldType.int)).before args0 about1 = true := code_word (m := ⟨5, 0⟩) (meth := k5m0) (c := k5c0) (by decide +kernel) rfl rfl rfl (by decide +kernel)
set_option maxRecDepth 65536 in
theorem w_c5 : (Jvm.Cond.code ({ cls := "com/example/kolektyv/kolektyv/records/Iso2709ReaderDigitsPinLaw", name := "term", desc := "([BIII)I" } : Jvm.MethodName) method_6_code (4 : Nat) (Option.some Jvm.ClassFile.FieldType.int)).before args0 about1 = true := code_word (m := ⟨1, 5⟩) (meth := k1m5) (c := k1c5) (by decide +kernel) rfl rfl rfl (by decide +kernel)
set_option maxRecDepth 65536 in
theorem w_c6 : (Jvm.Cond.code ({ cls := "com/example/kolektyv/kolektyv/records/Iso2709ReaderDigitsPinLaw", name := "pow10", desc := "(I)I" } : Jvm.MethodName) method_7_code (1 : Nat) (Option.some Jvm.ClassFile.FieldType.int)).before args0 about1 = true := code_word (m := ⟨1, 6⟩) (meth := k1m6) (c := k1c6) (by decide +kernel) rfl rfl rfl (by decide +kernel)
def codes1 : List Jvm.Cond := [Jvm.Cond.code x code maxLocals ret, Jvm.Cond.code ({ cls := "com/example/kolektyv/kolektyv/records/Iso2709ReaderDigitsPinLaw", name := "at", desc := "(JII)B" } : Jvm.MethodName) method_3_code (5 : Nat) (Option.some Jvm.ClassFile.FieldType.byte), Jvm.Cond.code ({ cls := "com/example/kolektyv/kolektyv/records/Iso2709ReaderDigitsPinLaw", name := "ok", desc := "([BIII)Z" } : Jvm.MethodName) method_5_code (4 : Nat) (Option.some Jvm.ClassFile.FieldType.boolean), Jvm.Cond.code ({ cls := "com/example/kolektyv/kolektyv/records/Iso2709ReaderDigitsPinLaw", name := "inside", desc := "(III)Z" } : Jvm.MethodName) method_4_code (3 : Nat) (Option.some Jvm.ClassFile.FieldType.boolean), Jvm.Cond.code ({ cls := "com/example/kolektyv/kolektyv/records/Iso2709Reader", name := "digits", desc := "([BII)I" } : Jvm.MethodName) prog_24_method_7_code (6 : Nat) (Option.some Jvm.ClassFile.FieldType.int), Jvm.Cond.code ({ cls := "com/example/kolektyv/kolektyv/records/Iso2709ReaderDigitsPinLaw", name := "term", desc := "([BIII)I" } : Jvm.MethodName) method_6_code (4 : Nat) (Option.some Jvm.ClassFile.FieldType.int), Jvm.Cond.code ({ cls := "com/example/kolektyv/kolektyv/records/Iso2709ReaderDigitsPinLaw", name := "pow10", desc := "(I)I" } : Jvm.MethodName) method_7_code (1 : Nat) (Option.some Jvm.ClassFile.FieldType.int)]
set_option maxRecDepth 65536 in
theorem codes_eq : words1.filter isCode = codes1 := rfl
theorem w_codes : ∀ c ∈ words1.filter isCode, c.before args0 about1 = true := by
  rw [codes_eq]
  intro c hc
  simp only [codes1, List.mem_cons, List.not_mem_nil, or_false] at hc
  rcases hc with rfl | rfl | rfl | rfl | rfl | rfl | rfl
  · exact w_c0
  · exact w_c1
  · exact w_c2
  · exact w_c3
  · exact w_c4
  · exact w_c5
  · exact w_c6
set_option maxRecDepth 65536 in
theorem w_t1 : (words1.take 24).all (fun c => isCode c || c.before args0 about1) = true := by decide +kernel
set_option maxRecDepth 65536 in
theorem w_t2 : (words1.drop 24).all (fun c => isCode c || c.before args0 about1) = true := by decide +kernel
theorem w_tables : (allAtoms (Jvm.Cond.code x code maxLocals ret :: tables_1)).before args0 about1 = true := by
  rw [allAtoms_all]
  show words1.all (fun c => c.before args0 about1) = true
  refine all_split ?_ w_codes
  rw [← List.take_append_drop 24 words1, List.all_append, w_t1, w_t2]
  rfl
set_option maxRecDepth 65536 in
theorem w_case : (Jvm.Cond.and given_1 narrow_1).before args0 about1 = true := by decide +kernel
theorem w_applies : (headSpec (Jvm.Cond.code x code maxLocals ret :: tables_1) room_1).applies x e0.platform about1 = true :=
  (Spec.applies_iff w_frames).mpr ⟨w_running, w_runnable, w_alone, w_named, w_hears, w_ripe, w_room, w_tables⟩
theorem atStart : AtStart classFile x code maxLocals ret World_1 tables_1 room_1 Calls_1 rest_1 Pre_1 launch0 p0 e0 about1 theMethod args0 below0 :=
  ⟨lists_1, trivial, launch0.admits_env _ _ _, launch0.least_env, fairChoices_fair.cas, fairChoices_fair.clock, w_frames, w_args, w_heap, w_applies, trivial, trivial, w_case⟩
end start1
theorem witness_1 : WitnessClaimed_1 := ⟨start1.p0, start1.e0, start1.about1, start1.theMethod, start1.args0, start1.below0, start1.atStart⟩
end Jvm.Pilot.@@N@@
