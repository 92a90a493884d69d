import JvmDerived
import JvmDerived.Pilot.@@N@@Statement
import JvmDerived.Pilot.@@N@@Code
set_option linter.unusedVariables false
set_option linter.unusedSimpArgs false
@@BLOCK:NumsL.lean.txt@@
namespace Jvm.RoadKit
open Sem ClassFile Op Lib Jvm.Stand Jvm.Free Jvm.LawKit
section New
variable {p : Program} {l : Launch} {e : Env} {R : Room} {s : State} {m : MethodId} {args : Array Value} {below : List Frame} {meth : Method} {c : Code} {T : State} {locs : List Loc} {cells slots : Nat}
theorem retI (X : Stand p l e R s m args below meth c T locs cells slots) (hx : p.tables.exec = Jvm.exec) {pc : Nat} {Ls : Array Slot} {z : Int32} {rest : List Value} (hret : meth.sig.returnType = some .int) (hd : decode c.code pc = .ok (.ireturn, 1)) {fs : List Frame}
    (hl : ∀ (f : JFrame) (acts : List Action), f.method = m → f.locked = none → f.entered = [] → (doReturn e (T.setTop f) acts (some (.int z))).1 = T.setFrames fs) : Steps p.tables e below (T.setTop (mkF m pc Ls (.int z :: rest))) (T.setFrames fs) := by
  have hm' : T.vm.method? m = some meth := X.method'
  have hn : narrow .int (.int z) = .int z := rfl
  show Steps p.tables e below (T.setTop { method := m, pc := pc, locals := Ls, stack := _ :: rest, locked := none }) _
  jvm_step X.here [X.here.top, hx, hd, hm', hret, hn]
  first | (intro acts; rw [hl _ acts rfl rfl rfl]) | rw [hl _ _ rfl rfl rfl]
  exact Steps.refl _
end New
end Jvm.RoadKit
namespace Jvm.Pilot.@@N@@
open Jvm Jvm.ClassFile Sem Op Lib Jvm.Free Jvm.Stand Jvm.LawKit Jvm.RoadKit Bundle Jvm.Pilot.@@N@@.Jvm.D
section Own
variable {p : Program} {l : Launch} {e : Env} {R : Room} {s : State} {m : MethodId} {args : Array Value} {below : List Frame} {meth : Method} {c : Code} {T : State} {locs : List Loc} {cells slots : Nat}
/-- the run goes on from S to its end, and P holds there -/
def own_Goes (tb : Tables) (e : Env) (below : List Frame) (S : State) (P : State → Outcome → Prop) : Prop :=
  ∃ s₂ o, Steps tb e below S s₂ ∧ s₂.status = .running ∧ Ended s₂ below o ∧ P s₂ o
theorem own_step {tb : Tables} {S S' : State} {P : State → Outcome → Prop} (h : ∀ t, Steps tb e below S' t → Steps tb e below S t) (k : own_Goes tb e below S' P) : own_Goes tb e below S P := by
  obtain ⟨s₂, o, h1, h2⟩ := k
  exact ⟨s₂, o, h _ h1, h2⟩
theorem own_enter {tb : Tables} {g g' : JFrame} {P : State → Outcome → Prop} (q : g = g') (k : own_Goes tb e below (T.setTop g') P) : own_Goes tb e below (T.setTop g) P := q ▸ k
def own_P (s : State) (Q : Option Value → Heap → List Loc → Prop) (C K : Nat) : State → Outcome → Prop := fun U o => ∃ v L, o = .returned v ∧ Q v U.heap L ∧ FrameEnd s o U L C K
/-- a body that writes nothing -/
def own_Qp (w : Option Value) (h0 : Heap) (v : Option Value) (h : Heap) (L : List Loc) : Prop := v = w ∧ L = [] ∧ h = h0
/-- a body that makes cells and writes none that stood before -/
def own_Qa (w : Option Value) (h0 : Heap) (n0 : Nat) (v : Option Value) (h : Heap) (L : List Loc) : Prop := v = w ∧ Fr n0 L ∧ Keep h0 h []
/-- the law -/
def own_Ql (w : Option Value) (n0 : Nat) (v : Option Value) (h : Heap) (L : List Loc) : Prop := v = w ∧ Fr n0 L
variable {Q : Option Value → Heap → List Loc → Prop} {C K : Nat}
theorem own_retI (X : Stand p l e R s m args below meth c T locs cells slots) (hx : p.tables.exec = Jvm.exec) {pc : Nat} {Ls : Array Slot} {z : Int32} {rest : List Value} (hret : meth.sig.returnType = some .int) (hd : decode c.code pc = .ok (.ireturn, 1)) (hk : meth.locks = false)
    (hQ : Q (some (.int z)) T.heap locs) (hc : cells ≤ C) (hs : slots ≤ K) : own_Goes p.tables e below (T.setTop (mkF m pc Ls (.int z :: rest))) (own_P s Q C K) := by
  obtain ⟨fs, hr, hrun, hended, hW, hsame⟩ := X.leave (v := some (.int z)) (fun h => by rw [hret] at h; cases h) hk
  exact ⟨_, _, retI X hx hret hd hr, hrun, hended, _, _, rfl, hQ, ⟨_, rfl⟩, hW, hsame.mono hc hs⟩
theorem own_retN (X : Stand p l e R s m args below meth c T locs cells slots) (hx : p.tables.exec = Jvm.exec) {pc : Nat} {Ls : Array Slot} {z : Int32} {t : FieldType} {rest : List Value} (hret : meth.sig.returnType = some t) (ht : t = .boolean ∨ t = .byte ∨ t = .char ∨ t = .short) (hd : decode c.code pc = .ok (.ireturn, 1)) (hk : meth.locks = false)
    {w : Int32} (hw : nar t z = w) (hQ : Q (some (.int w)) T.heap locs) (hc : cells ≤ C) (hs : slots ≤ K) : own_Goes p.tables e below (T.setTop (mkF m pc Ls (.int z :: rest))) (own_P s Q C K) := by
  subst hw
  obtain ⟨fs, hr, hrun, hended, hW, hsame⟩ := X.leave (v := some (.int (nar t z))) (fun h => by rw [hret] at h; cases h) hk
  exact ⟨_, _, retN X hx hret ht hd hr, hrun, hended, _, _, rfl, hQ, ⟨_, rfl⟩, hW, hsame.mono hc hs⟩
theorem own_retJ (X : Stand p l e R s m args below meth c T locs cells slots) (hx : p.tables.exec = Jvm.exec) {pc : Nat} {Ls : Array Slot} {z : Int64} (hret : meth.sig.returnType = some .long) (hd : decode c.code pc = .ok (.lreturn, 1)) (hk : meth.locks = false)
    (hQ : Q (some (.long z)) T.heap locs) (hc : cells ≤ C) (hs : slots ≤ K) : own_Goes p.tables e below (T.setTop (mkF m pc Ls [.long z])) (own_P s Q C K) := by
  obtain ⟨fs, hr, hrun, hended, hW, hsame⟩ := X.leave (v := some (.long z)) (fun h => by rw [hret] at h; cases h) hk
  exact ⟨_, _, X.lreturnOut hx hret hd hr, hrun, hended, _, _, rfl, hQ, ⟨_, rfl⟩, hW, hsame.mono hc hs⟩
theorem own_retV (X : Stand p l e R s m args below meth c T locs cells slots) (hx : p.tables.exec = Jvm.exec) {pc : Nat} {Ls : Array Slot} (hret : meth.sig.returnType = none) (hd : decode c.code pc = .ok (.return_, 1)) (hk : meth.locks = false)
    (hQ : Q none T.heap locs) (hc : cells ≤ C) (hs : slots ≤ K) : own_Goes p.tables e below (T.setTop (mkF m pc Ls [])) (own_P s Q C K) := by
  obtain ⟨fs, hr, hrun, hended, hW, hsame⟩ := X.leave (v := none) (fun _ => rfl) hk
  exact ⟨_, _, X.returnOut hx hret hd hr, hrun, hended, _, _, rfl, hQ, ⟨_, rfl⟩, hW, hsame.mono hc hs⟩
theorem own_flat (X : Stand p l e R s m args below meth c T (locs ++ []) (cells + 0) (slots + 0)) : Stand p l e R s m args below meth c T locs cells slots := List.append_nil locs ▸ X
end Own

section OwnArr
variable {p : Program} {l : Launch} {e : Env} {R : Room} {s : State} {m : MethodId} {args : Array Value} {below : List Frame} {meth : Method} {c : Code} {T : State} {locs : List Loc} {cells slots : Nat} {Z : State} {a0 : Array Value} {h h' : Heap} {a : Addr} {k : ClassId} {ty : FieldType} {n : Int32} {xs : List Int32}
/-- an array of ints (bytes, chars ..) that the road has made: xs are its elements -/
def own_A (Z : State) (h : Heap) (a : Addr) (k : ClassId) (ty : FieldType) (n : Int32) (xs : List Int32) : Prop := Arv Z h a k ty n (xs.map Value.int) (.int 0)
theorem own_A.keep {ws : List Addr} (V : own_A Z h a k ty n xs) (K : Keep h h' ws) (q : a ∉ ws) : own_A Z h' a k ty n xs := Arv.keep V K q
theorem own_newA (X : Stand p l e R s m args below meth c T locs cells slots) (hx : p.tables.exec = Jvm.exec) (hZ : Z.Warmed39 s.vm) {aty : ArrayType} (w : (Jvm.Cond.arrayClass (newarray.typeOf aty)).before a0 Z = true) (eT : T.heap = h) {g : JFrame} (hg : g.method = m) (hd : decode c.code g.pc = .ok (.newarray aty, 2)) {rest : List Value} (hs : g.stack = .int n :: rest)
    (N : Nat) (hn : ¬ n < 0) (hN : n.toNatClampNeg = N) (hb : N * 8 ≤ 536870912) (hc : cells + 1 ≤ R.cells) (hl : slots + N ≤ R.slots) (h0 : defaultValue (newarray.typeOf aty) = .int 0) :
    ∃ T' h' a k, Stand p l e R s m args below meth c T' locs (cells + 1) (slots + N) ∧ T'.heap = h' ∧ Ext h h' ∧ a = h.size ∧ own_A Z h' a k (newarray.typeOf aty) n (List.replicate N 0) ∧
      ∀ target, Steps p.tables e below (T'.setTop { g with pc := g.pc + 2, stack := .ref a :: rest }) target → Steps p.tables e below (T.setTop g) target := by
  obtain ⟨T', h', cA, X', e', E, A, st⟩ := newP X hx hZ w eT hg hd hs hn (cap := N) (Nat.le_of_eq hN) hb hc hl
  refine ⟨T', h', h.size, cA, X', e', E, rfl, ?_, st⟩
  have V := Arv.new A hn
  rw [h0] at V
  have V' := V.pad (pad_rep [] (.int 0) N)
  unfold own_A
  rw [List.map_replicate]
  exact V'
theorem own_setA {j x : Int32} {cl : Cell} (A : Arr Z h a cl ty) (q : cl.cls = k) (S : cl.slots.size = n.toNatClampNeg) (N : ¬ n < 0) (H : Has cl (xs.map Value.int) (.int 0)) (G : ∀ i, i < cl.slots.size → fits ty ((xs.map Value.int).getD i (.int 0)) = true) (hf : fits ty (.int x) = true)
    (W : Wr h h' a j.toNatClampNeg (.int x)) (i : Nat) (hj : j.toNatClampNeg = i) (hi : i < xs.length) : own_A Z h' a k ty n (xs.set i x) := by
  have V := Arv.set A q S N H G hf W i hj (by simpa using hi)
  unfold own_A
  rw [List.map_set]
  exact V
theorem own_stI (X : Stand p l e R s m args below meth c T locs cells slots) (hx : p.tables.exec = Jvm.exec) (hZ : Z.Warmed39 s.vm) (eT : T.heap = h) (V : own_A Z h a k .int n xs) {j x : Int32} (i : Nat) (hj : ¬ j < 0 ∧ j < n) (hi : j.toNatClampNeg = i) (hl : i < xs.length)
    {g : JFrame} (hg : g.method = m) {rest : List Value} (hs : g.stack = .int x :: .int j :: .ref a :: rest) (hd : decode c.code g.pc = .ok (.iastore, 1)) :
    ∃ T' h' L', Stand p l e R s m args below meth c T' L' cells slots ∧ T'.heap = h' ∧ (∀ n0, Fr n0 locs → n0 ≤ a → Fr n0 L') ∧ own_A Z h' a k .int n (xs.set i x) ∧ Wr h h' a j.toNatClampNeg (.int x) ∧
      ∀ target, Steps p.tables e below (T'.setTop { g with pc := g.pc + 1, stack := rest }) target → Steps p.tables e below (T.setTop g) target := by
  obtain ⟨cl, A, q, S, N, H, G⟩ := V
  obtain ⟨T', h', X', e', W, st⟩ := stI X hx hZ eT A (inb_of S hj) hg hs hd
  exact ⟨T', h', _, X', e', fun n0 F q => Fr.snoc X' F q, own_setA A q S N H G rfl W i hi hl, W, st⟩
theorem own_stB (X : Stand p l e R s m args below meth c T locs cells slots) (hx : p.tables.exec = Jvm.exec) (hZ : Z.Warmed39 s.vm) (eT : T.heap = h) (V : own_A Z h a k .byte n xs) {j x : Int32} (i : Nat) (hj : ¬ j < 0 ∧ j < n) (hi : j.toNatClampNeg = i) (hl : i < xs.length)
    {g : JFrame} (hg : g.method = m) {rest : List Value} (hs : g.stack = .int x :: .int j :: .ref a :: rest) (hd : decode c.code g.pc = .ok (.bastore, 1)) :
    ∃ T' h' L', Stand p l e R s m args below meth c T' L' cells slots ∧ T'.heap = h' ∧ (∀ n0, Fr n0 locs → n0 ≤ a → Fr n0 L') ∧ own_A Z h' a k .byte n (xs.set i (nar .byte x)) ∧ Wr h h' a j.toNatClampNeg (.int (nar .byte x)) ∧
      ∀ target, Steps p.tables e below (T'.setTop { g with pc := g.pc + 1, stack := rest }) target → Steps p.tables e below (T.setTop g) target := by
  obtain ⟨cl, A, q, S, N, H, G⟩ := V
  obtain ⟨T', h', X', e', W, st⟩ := stB X hx hZ eT A (inb_of S hj) hg hs hd
  exact ⟨T', h', _, X', e', fun n0 F q => Fr.snoc X' F q, own_setA A q S N H G (fits_nar_byte _) W i hi hl, W, st⟩
theorem own_stC (X : Stand p l e R s m args below meth c T locs cells slots) (hx : p.tables.exec = Jvm.exec) (hZ : Z.Warmed39 s.vm) (eT : T.heap = h) (V : own_A Z h a k .char n xs) {j x : Int32} (i : Nat) (hj : ¬ j < 0 ∧ j < n) (hi : j.toNatClampNeg = i) (hl : i < xs.length)
    {g : JFrame} (hg : g.method = m) {rest : List Value} (hs : g.stack = .int x :: .int j :: .ref a :: rest) (hd : decode c.code g.pc = .ok (.castore, 1)) :
    ∃ T' h' L', Stand p l e R s m args below meth c T' L' cells slots ∧ T'.heap = h' ∧ (∀ n0, Fr n0 locs → n0 ≤ a → Fr n0 L') ∧ own_A Z h' a k .char n (xs.set i (nar .char x)) ∧ Wr h h' a j.toNatClampNeg (.int (nar .char x)) ∧
      ∀ target, Steps p.tables e below (T'.setTop { g with pc := g.pc + 1, stack := rest }) target → Steps p.tables e below (T.setTop g) target := by
  obtain ⟨cl, A, q, S, N, H, G⟩ := V
  obtain ⟨T', h', X', e', W, st⟩ := stC X hx hZ eT A (inb_of S hj) hg hs hd
  exact ⟨T', h', _, X', e', fun n0 F q => Fr.snoc X' F q, own_setA A q S N H G (fits_nar_char _) W i hi hl, W, st⟩
theorem own_getA (V : own_A Z h a k ty n xs) {j : Int32} (hj : ¬ j < 0 ∧ j < n) : ∃ cl : Cell, Arr Z h a cl ty ∧ ¬ (j < 0 ∨ cl.slots.size ≤ j.toNatClampNeg) ∧ cl.slots[j.toNatClampNeg]? = some (.int (xs.getD j.toNatClampNeg 0)) := by
  obtain ⟨cl, A, q, S, N, H, G⟩ := V
  have hin := inb_of S hj
  refine ⟨cl, A, hin, ?_⟩
  rw [H _ (Nat.lt_of_not_le fun q => hin (Or.inr q))]
  simp only [List.getD_eq_getElem?_getD, List.getElem?_map]
  cases xs[j.toNatClampNeg]? <;> rfl
theorem own_ldI (X : Stand p l e R s m args below meth c T locs cells slots) (hx : p.tables.exec = Jvm.exec) (hZ : Z.Warmed39 s.vm) (eT : T.heap = h) (V : own_A Z h a k .int n xs) {j : Int32} (hj : ¬ j < 0 ∧ j < n)
    {g : JFrame} (hg : g.method = m) {rest : List Value} (hs : g.stack = .int j :: .ref a :: rest) (hd : decode c.code g.pc = .ok (.iaload, 1)) :
    ∀ target, Steps p.tables e below (T.setTop { g with pc := g.pc + 1, stack := .int (xs.getD j.toNatClampNeg 0) :: rest }) target → Steps p.tables e below (T.setTop g) target := by
  obtain ⟨cl, A, hin, hat⟩ := own_getA V hj
  exact X.iaload hx (by rw [eT]; exact A.1) (State.isArrayOf_alike hZ.alike A.2.1) A.2.2 hin hat hg hs hd
theorem own_ldB (X : Stand p l e R s m args below meth c T locs cells slots) (hx : p.tables.exec = Jvm.exec) (hZ : Z.Warmed39 s.vm) (eT : T.heap = h) (V : own_A Z h a k .byte n xs) {j : Int32} (hj : ¬ j < 0 ∧ j < n)
    {g : JFrame} (hg : g.method = m) {rest : List Value} (hs : g.stack = .int j :: .ref a :: rest) (hd : decode c.code g.pc = .ok (.baload, 1)) :
    ∀ target, Steps p.tables e below (T.setTop { g with pc := g.pc + 1, stack := .int (xs.getD j.toNatClampNeg 0) :: rest }) target → Steps p.tables e below (T.setTop g) target := by
  obtain ⟨cl, A, hin, hat⟩ := own_getA V hj
  exact X.baloadBytes hx (by rw [eT]; exact A.1) (State.isArrayOf_alike hZ.alike A.2.1) A.2.2 hin hat hg hs hd
theorem own_ldC (X : Stand p l e R s m args below meth c T locs cells slots) (hx : p.tables.exec = Jvm.exec) (hZ : Z.Warmed39 s.vm) (eT : T.heap = h) (V : own_A Z h a k .char n xs) {j : Int32} (hj : ¬ j < 0 ∧ j < n)
    {g : JFrame} (hg : g.method = m) {rest : List Value} (hs : g.stack = .int j :: .ref a :: rest) (hd : decode c.code g.pc = .ok (.caload, 1)) :
    ∀ target, Steps p.tables e below (T.setTop { g with pc := g.pc + 1, stack := .int (xs.getD j.toNatClampNeg 0) :: rest }) target → Steps p.tables e below (T.setTop g) target := by
  obtain ⟨cl, A, hin, hat⟩ := own_getA V hj
  exact X.caload hx (by rw [eT]; exact A.1) (State.isArrayOf_alike hZ.alike A.2.1) A.2.2 hin hat hg hs hd
end OwnArr
theorem own_rem32 (x y : Int32) : (x - x / y * y).toInt = x.toInt.tmod y.toInt := by
  have a := (x % y).toInt_lt; have b := (x % y).le_toInt
  rw [Int32.toInt_mod] at a b
  rw [Int32.toInt_sub, Int32.toInt_mul, Int32.toInt_div, Int.bmod_mul_bmod, Int.sub_bmod_bmod, Int.mul_comm, ← Int.tmod_def]
  exact Jvm.Kit.bmod32 b a
theorem own_rem32n {x y : Int32} (hx : 0 ≤ x.toInt) : (x - x / y * y).toInt = x.toInt % y.toInt := by rw [own_rem32, Int.tmod_eq_emod_of_nonneg hx]
theorem own_m31 (x : Int32) : 0 ≤ (x &&& (2147483647 : Int32)).toInt ∧ (x &&& (2147483647 : Int32)).toInt < 2147483648 := by
  rw [Jvm.Kit.i32_mask x 2147483647 (k := 31) (by decide) (by decide)]
  omega
theorem own_first (p : Int32) : 0 ≤ ((p &&& (2147483647 : Int32)) - (p &&& (2147483647 : Int32)) / (7 : Int32) * (7 : Int32)).toInt ∧ ((p &&& (2147483647 : Int32)) - (p &&& (2147483647 : Int32)) / (7 : Int32) * (7 : Int32)).toInt ≤ 6 := by
  rw [own_rem32n (own_m31 p).1, show (7 : Int32).toInt = 7 from rfl]
  omega
theorem own_seven {f : Int32} (h : 0 ≤ f.toInt ∧ f.toInt ≤ 6) : ((7 : Int32) - f).toInt = 7 - f.toInt := by
  have l9 : (7 : Int32).toInt = 7 := rfl
  rw [Jvm.Kit.i32_sub (by omega) (by omega), l9]
theorem own_nz {f : Int32} (h : 0 ≤ f.toInt ∧ f.toInt ≤ 6) : (7 : Int32) - f ≠ 0 := fun q => by
  have e := own_seven h
  rw [q, show (0 : Int32).toInt = 0 from rfl] at e
  omega
/-- 0 ≤ from ≤ to ≤ 6 -/
def own_ft (f t : Int32) : Prop := 0 ≤ f.toInt ∧ f.toInt ≤ t.toInt ∧ t.toInt ≤ 6
theorem own_to {f : Int32} (h : 0 ≤ f.toInt ∧ f.toInt ≤ 6) (p : Int32) : own_ft f (f + ((p &&& (2147483647 : Int32)) - (p &&& (2147483647 : Int32)) / ((7 : Int32) - f) * ((7 : Int32) - f))) := by
  have e := own_seven h
  have hm := Int.emod_lt_of_pos (p &&& (2147483647 : Int32)).toInt (b := 7 - f.toInt) (by omega)
  have hn := Int.emod_nonneg (p &&& (2147483647 : Int32)).toInt (b := 7 - f.toInt) (by omega)
  have e2 : ((p &&& (2147483647 : Int32)) - (p &&& (2147483647 : Int32)) / ((7 : Int32) - f) * ((7 : Int32) - f)).toInt = (p &&& (2147483647 : Int32)).toInt % (7 - f.toInt) := by rw [own_rem32n (own_m31 p).1, e]
  unfold own_ft
  rw [Jvm.Kit.i32_add (by omega) (by omega), e2]
  omega
/-- a place r - k, read where r lies between 2 and 6 -/
theorem own_back {r k : Int32} (h : 2 ≤ r.toInt ∧ r.toInt ≤ 6) (hk : 1 ≤ k.toInt ∧ k.toInt ≤ 2) : ¬ (r - k) < 0 ∧ (r - k) < 6 := by
  have e : (r - k).toInt = r.toInt - k.toInt := Jvm.Kit.i32_sub (by omega) (by omega)
  rw [Int32.lt_iff_toInt_lt, Int32.lt_iff_toInt_lt, e, show (6 : Int32).toInt = 6 from rfl, show (0 : Int32).toInt = 0 from rfl]
  omega
theorem own_back3 {f t r : Int32} (h : 2 ≤ r.toInt ∧ r.toInt ≤ 6) (hf : own_ft f t) (q : ¬ (r - (3 : Int32)) < f) : ¬ (r - (3 : Int32)) < 0 ∧ (r - (3 : Int32)) < 6 := by
  have l3 : (3 : Int32).toInt = 3 := rfl
  have e : (r - (3 : Int32)).toInt = r.toInt - 3 := by rw [Jvm.Kit.i32_sub (by omega) (by omega), l3]
  obtain ⟨h1, h2, h3⟩ := hf
  rw [Int32.lt_iff_toInt_lt, e] at q
  rw [Int32.lt_iff_toInt_lt, Int32.lt_iff_toInt_lt, e, show (6 : Int32).toInt = 6 from rfl, show (0 : Int32).toInt = 0 from rfl]
  omega
/-- the loop: i between 0 and to, fewer turns left than fuel -/
def own_H (t i : Int32) (fuel : Nat) : Prop := 0 ≤ i.toInt ∧ i.toInt ≤ t.toInt ∧ t.toInt ≤ 6 ∧ t.toInt - i.toInt < (fuel : Int)
theorem own_HZ {t i : Int32} : ¬ own_H t i 0 := fun ⟨h1, h2, h3, h4⟩ => by omega
theorem own_H0 {f t : Int32} (h : own_ft f t) : own_H t f 8 := by
  obtain ⟨h1, h2, h3⟩ := h
  exact ⟨h1, h2, h3, by omega⟩
theorem own_plus {i k : Int32} (h : 0 ≤ i.toInt ∧ i.toInt ≤ 6) (hk : 0 ≤ k.toInt ∧ k.toInt ≤ 3) : (i + k).toInt = i.toInt + k.toInt := Jvm.Kit.i32_add (by omega) (by omega)
theorem own_HS {t i : Int32} {fuel : Nat} (q : i < t) (h : own_H t i (fuel + 1)) : own_H t (i + (1 : Int32)) fuel := by
  obtain ⟨h1, h2, h3, h4⟩ := h
  rw [Int32.lt_iff_toInt_lt] at q
  have l1 : (1 : Int32).toInt = 1 := rfl
  have e := own_plus (i := i) (k := 1) (by omega) (by decide)
  exact ⟨by omega, by omega, h3, by omega⟩
theorem own_ix {t i : Int32} {fuel : Nat} (h : own_H t i fuel) (q : i < t) : ¬ i < 0 ∧ i < 6 := by
  obtain ⟨h1, h2, h3, h4⟩ := h
  rw [Int32.lt_iff_toInt_lt] at q
  rw [Int32.lt_iff_toInt_lt, Int32.lt_iff_toInt_lt, show (6 : Int32).toInt = 6 from rfl, show (0 : Int32).toInt = 0 from rfl]
  omega
theorem own_ixk {t i k j : Int32} {fuel : Nat} (h : own_H t i fuel) (hk : 0 ≤ k.toInt ∧ k.toInt ≤ 3) (hj : 0 ≤ j.toInt ∧ j.toInt ≤ k.toInt) (q : (i + k) < t) : ¬ (i + j) < 0 ∧ (i + j) < 6 := by
  obtain ⟨h1, h2, h3, h4⟩ := h
  rw [Int32.lt_iff_toInt_lt, own_plus (by omega) hk] at q
  rw [Int32.lt_iff_toInt_lt, Int32.lt_iff_toInt_lt, own_plus (by omega) (by omega), show (6 : Int32).toInt = 6 from rfl, show (0 : Int32).toInt = 0 from rfl]
  omega

theorem d1_0 : decode method_2_code 0 = .ok (.iload_n 0, 1) := by decide +kernel
theorem d1_1 : decode method_2_code 1 = .ok (.iconst 2, 1) := by decide +kernel
theorem d1_2 : decode method_2_code 2 = .ok (.iload_n 3, 1) := by decide +kernel
theorem d1_3 : decode method_2_code 3 = .ok (.imul, 1) := by decide +kernel
theorem d1_4 : decode method_2_code 4 = .ok (.iushr, 1) := by decide +kernel
theorem d1_5 : decode method_2_code 5 = .ok (.iconst 3, 1) := by decide +kernel
theorem d1_6 : decode method_2_code 6 = .ok (.iand, 1) := by decide +kernel
theorem d1_7 : decode method_2_code 7 = .ok (.istore 4, 2) := by decide +kernel
theorem d1_9 : decode method_2_code 9 = .ok (.iload 4, 2) := by decide +kernel
theorem d1_11 : decode method_2_code 11 = .ok (.ifCond .ne 6, 3) := by decide +kernel
theorem d1_14 : decode method_2_code 14 = .ok (.bipush 10, 2) := by decide +kernel
theorem d1_16 : decode method_2_code 16 = .ok (.ireturn, 1) := by decide +kernel
theorem d1_17 : decode method_2_code 17 = .ok (.iload 4, 2) := by decide +kernel
theorem d1_19 : decode method_2_code 19 = .ok (.iconst 1, 1) := by decide +kernel
theorem d1_20 : decode method_2_code 20 = .ok (.if_icmp .ne 6, 3) := by decide +kernel
theorem d1_23 : decode method_2_code 23 = .ok (.bipush 13, 2) := by decide +kernel
theorem d1_25 : decode method_2_code 25 = .ok (.ireturn, 1) := by decide +kernel
theorem d1_26 : decode method_2_code 26 = .ok (.iload 4, 2) := by decide +kernel
theorem d1_28 : decode method_2_code 28 = .ok (.iconst 2, 1) := by decide +kernel
theorem d1_29 : decode method_2_code 29 = .ok (.if_icmp .ne 6, 3) := by decide +kernel
theorem d1_32 : decode method_2_code 32 = .ok (.bipush 32, 2) := by decide +kernel
theorem d1_34 : decode method_2_code 34 = .ok (.ireturn, 1) := by decide +kernel
theorem d1_35 : decode method_2_code 35 = .ok (.lload_n 1, 1) := by decide +kernel
theorem d1_36 : decode method_2_code 36 = .ok (.bipush 8, 2) := by decide +kernel
theorem d1_38 : decode method_2_code 38 = .ok (.iload_n 3, 1) := by decide +kernel
theorem d1_39 : decode method_2_code 39 = .ok (.imul, 1) := by decide +kernel
theorem d1_40 : decode method_2_code 40 = .ok (.lushr, 1) := by decide +kernel
theorem d1_41 : decode method_2_code 41 = .ok (.l2i, 1) := by decide +kernel
theorem d1_42 : decode method_2_code 42 = .ok (.i2b, 1) := by decide +kernel
theorem d1_43 : decode method_2_code 43 = .ok (.ireturn, 1) := by decide +kernel
theorem pn_1 : plainName "com/example/sandpiper/sandpiper/broker/RequestHeadEndPinLaw" = true := by first | (simp [plainName, overriddenIn]; done) | decide +kernel
theorem ef_1 (m : MethodId) (p0 : Int32) (q1 : Int64) (p2 : Int32) : entryFrame m #[(.int p0), (.long q1), (.int p2)] 5 = mkF m 0 #[.val (.int p0), .val (.long q1), .second, .val (.int p2), .unset] [] := by first | (simp [entryFrame, mkF, argsToLocals, Value.category]; done) | rfl
def own_f1 (p0 : Int32) (q1 : Int64) (p2 : Int32) : Int32 :=
  let z7 : Int32 := (((p0.toUInt32 >>> (((2 : Int32) * p2) &&& 31).toUInt32).toInt32) &&& (3 : Int32))
  if z7 = 0 then
    (nar .byte (10 : Int32))
  else
    if z7 = (1 : Int32) then
      (nar .byte (13 : Int32))
    else
      if z7 = (2 : Int32) then
        (nar .byte (32 : Int32))
      else
        (nar .byte ((((q1.toUInt64 >>> (((8 : Int32) * p2) &&& 0x3f).toInt64.toUInt64).toInt64).toInt32).toInt8.toInt32))
abbrev own_room1 : Room := { frames := 0, cells := 0, slots := 0, locals := 0 }
set_option maxRecDepth 65536 in
set_option maxHeartbeats 40000000 in
theorem rm1 (l : Launch) (Z : State) (a0 : Array Value) (hw : ∀ d ∈ tables_1, d.before a0 Z = true) (ws : List Jvm.Cond) (p0 : Int32) (q1 : Int64) (p2 : Int32) (h0 : Heap) (n0 : Nat) (Z0 : n0 ≤ h0.size) :
    MetFree l (⟨"com/example/sandpiper/sandpiper/broker/RequestHeadEndPinLaw", "pick", "(IJI)B"⟩ : MethodName) (head1 (Jvm.Cond.code (⟨"com/example/sandpiper/sandpiper/broker/RequestHeadEndPinLaw", "pick", "(IJI)B"⟩ : MethodName) method_2_code 5 (some .byte) :: ws) own_room1) (fun a U => a = #[(.int p0), (.long q1), (.int p2)] ∧ Z.Warmed39 U.vm ∧ U.heap = h0) (fun _ _ _ _ _ => True) (fun _ U o U' => ∃ v L, o = .returned v ∧ own_Qp (some (.int (own_f1 p0 q1 p2))) h0 v U'.heap L ∧ FrameEnd U o U' L own_room1.cells own_room1.slots) := by
  refine MetFree.of_bodySF (plainFor_of_name pn_1) hisR ?_
  intro p e s m args below meth c s₁ Bd hml0 hP hK
  obtain ⟨rfl, hZ, hh⟩ := hP
  have hx := Bd.exec
  have hby := Bd.bytes
  have hml : c.maxLocals = 5 := hml0
  have hown : s.vm.findClass "com/example/sandpiper/sandpiper/broker/RequestHeadEndPinLaw" = some m.cls := findClass_of_methodNamed Bd.named
  have hnm := (name_of_methodNamed Bd.named Bd.method).1
  have X0 : Stand p l e own_room1 s m #[(.int p0), (.long q1), (.int p2)] below meth c s₁ [] 0 0 := Stand.of_body Bd
  have e0 : s₁.heap = h0 := by rw [← hh, Bd.state]; rfl
  have N0 := Fr.nil n0
  refine own_enter (ef_1 m p0 q1 p2) ?_
  show own_Goes p.tables e below (s₁.setTop (mkF m 0 #[.val (.int p0), .val (.long q1), .second, .val (.int p2), .unset] [])) (own_P s (own_Qp (some (.int (own_f1 p0 q1 p2))) h0) own_room1.cells own_room1.slots)
  refine own_step (fun _ => XS.iloadN X0.here hx rfl (hb hby d1_0) rfl) ?_
  show own_Goes p.tables e below (s₁.setTop (mkF m 1 #[.val (.int p0), .val (.long q1), .second, .val (.int p2), .unset] [(.int p0)])) _
  refine own_step (fun _ => XS.iconst X0.here hx rfl (hb hby d1_1)) ?_
  show own_Goes p.tables e below (s₁.setTop (mkF m 2 #[.val (.int p0), .val (.long q1), .second, .val (.int p2), .unset] [(.int (2 : Int32)), (.int p0)])) _
  refine own_step (fun _ => XS.iloadN X0.here hx rfl (hb hby d1_2) rfl) ?_
  show own_Goes p.tables e below (s₁.setTop (mkF m 3 #[.val (.int p0), .val (.long q1), .second, .val (.int p2), .unset] [(.int p2), (.int (2 : Int32)), (.int p0)])) _
  refine own_step (fun _ => XS.imul X0.here hx rfl (hb hby d1_3) rfl) ?_
  show own_Goes p.tables e below (s₁.setTop (mkF m 4 #[.val (.int p0), .val (.long q1), .second, .val (.int p2), .unset] [(.int ((2 : Int32) * p2)), (.int p0)])) _
  refine own_step (fun _ => XS.iushr X0.here hx rfl (hb hby d1_4) rfl) ?_
  show own_Goes p.tables e below (s₁.setTop (mkF m 5 #[.val (.int p0), .val (.long q1), .second, .val (.int p2), .unset] [(.int ((p0.toUInt32 >>> (((2 : Int32) * p2) &&& 31).toUInt32).toInt32))])) _
  refine own_step (fun _ => XS.iconst X0.here hx rfl (hb hby d1_5)) ?_
  show own_Goes p.tables e below (s₁.setTop (mkF m 6 #[.val (.int p0), .val (.long q1), .second, .val (.int p2), .unset] [(.int (3 : Int32)), (.int ((p0.toUInt32 >>> (((2 : Int32) * p2) &&& 31).toUInt32).toInt32))])) _
  refine own_step (fun _ => XS.iand X0.here hx rfl (hb hby d1_6) rfl) ?_
  show own_Goes p.tables e below (s₁.setTop (mkF m 7 #[.val (.int p0), .val (.long q1), .second, .val (.int p2), .unset] [(.int (((p0.toUInt32 >>> (((2 : Int32) * p2) &&& 31).toUInt32).toInt32) &&& (3 : Int32)))])) _
  obtain ⟨z7, hz7⟩ : ∃ z : Int32, z = (((p0.toUInt32 >>> (((2 : Int32) * p2) &&& 31).toUInt32).toInt32) &&& (3 : Int32)) := ⟨_, rfl⟩
  refine own_step (fun _ => XS.istore X0.here hx rfl (hb hby d1_7) rfl (l' := #[.val (.int p0), .val (.long q1), .second, .val (.int p2), .val (.int z7)]) (by subst hz7; rfl)) ?_
  show own_Goes p.tables e below (s₁.setTop (mkF m 9 #[.val (.int p0), .val (.long q1), .second, .val (.int p2), .val (.int z7)] [])) _
  refine own_step (fun _ => XS.iload X0.here hx rfl (hb hby d1_9) rfl) ?_
  show own_Goes p.tables e below (s₁.setTop (mkF m 11 #[.val (.int p0), .val (.long q1), .second, .val (.int p2), .val (.int z7)] [(.int z7)])) _
  by_cases hc11 : z7 = 0
  · refine own_step (fun _ => XS.ifNo X0.here hx rfl (hb hby d1_11) rfl (Jvm.Free.XT.i0_ne_f hc11)) ?_
    show own_Goes p.tables e below (s₁.setTop (mkF m 14 #[.val (.int p0), .val (.long q1), .second, .val (.int p2), .val (.int z7)] [])) _
    refine own_step (fun _ => XS.bipush X0.here hx rfl (hb hby d1_14)) ?_
    show own_Goes p.tables e below (s₁.setTop (mkF m 16 #[.val (.int p0), .val (.long q1), .second, .val (.int p2), .val (.int z7)] [(.int (10 : Int32))])) _
    have hv : (own_f1 p0 q1 p2) = (nar .byte (10 : Int32)) := by subst hz7; exact (if_pos hc11)
    rw [hv]
    exact own_retN X0 hx (t := .byte) Bd.returns (by simp) (hb hby d1_16) (BodyLoose.notSynchronized Bd) (w := (nar .byte (10 : Int32))) rfl ⟨rfl, rfl, e0⟩ (by decide) (by decide)
  · refine own_step (fun _ => XS.ifYes X0.here hx rfl (pc0 := 11) (pc' := 17) rfl (hb hby d1_11) rfl (Jvm.Free.XT.i0_ne_t hc11) (by decide) (by decide)) ?_
    show own_Goes p.tables e below (s₁.setTop (mkF m 17 #[.val (.int p0), .val (.long q1), .second, .val (.int p2), .val (.int z7)] [])) _
    refine own_step (fun _ => XS.iload X0.here hx rfl (hb hby d1_17) rfl) ?_
    show own_Goes p.tables e below (s₁.setTop (mkF m 19 #[.val (.int p0), .val (.long q1), .second, .val (.int p2), .val (.int z7)] [(.int z7)])) _
    refine own_step (fun _ => XS.iconst X0.here hx rfl (hb hby d1_19)) ?_
    show own_Goes p.tables e below (s₁.setTop (mkF m 20 #[.val (.int p0), .val (.long q1), .second, .val (.int p2), .val (.int z7)] [(.int (1 : Int32)), (.int z7)])) _
    by_cases hc20 : z7 = (1 : Int32)
    · refine own_step (fun _ => XS.icmpNo X0.here hx rfl (hb hby d1_20) rfl (Jvm.Free.XT.ii_ne_f hc20)) ?_
      show own_Goes p.tables e below (s₁.setTop (mkF m 23 #[.val (.int p0), .val (.long q1), .second, .val (.int p2), .val (.int z7)] [])) _
      refine own_step (fun _ => XS.bipush X0.here hx rfl (hb hby d1_23)) ?_
      show own_Goes p.tables e below (s₁.setTop (mkF m 25 #[.val (.int p0), .val (.long q1), .second, .val (.int p2), .val (.int z7)] [(.int (13 : Int32))])) _
      have hv : (own_f1 p0 q1 p2) = (nar .byte (13 : Int32)) := by subst hz7; exact ((if_neg hc11)).trans (if_pos hc20)
      rw [hv]
      exact own_retN X0 hx (t := .byte) Bd.returns (by simp) (hb hby d1_25) (BodyLoose.notSynchronized Bd) (w := (nar .byte (13 : Int32))) rfl ⟨rfl, rfl, e0⟩ (by decide) (by decide)
    · refine own_step (fun _ => XS.icmpYes X0.here hx rfl (pc0 := 20) (pc' := 26) rfl (hb hby d1_20) rfl (Jvm.Free.XT.ii_ne_t hc20) (by decide) (by decide)) ?_
      show own_Goes p.tables e below (s₁.setTop (mkF m 26 #[.val (.int p0), .val (.long q1), .second, .val (.int p2), .val (.int z7)] [])) _
      refine own_step (fun _ => XS.iload X0.here hx rfl (hb hby d1_26) rfl) ?_
      show own_Goes p.tables e below (s₁.setTop (mkF m 28 #[.val (.int p0), .val (.long q1), .second, .val (.int p2), .val (.int z7)] [(.int z7)])) _
      refine own_step (fun _ => XS.iconst X0.here hx rfl (hb hby d1_28)) ?_
      show own_Goes p.tables e below (s₁.setTop (mkF m 29 #[.val (.int p0), .val (.long q1), .second, .val (.int p2), .val (.int z7)] [(.int (2 : Int32)), (.int z7)])) _
      by_cases hc29 : z7 = (2 : Int32)
      · refine own_step (fun _ => XS.icmpNo X0.here hx rfl (hb hby d1_29) rfl (Jvm.Free.XT.ii_ne_f hc29)) ?_
        show own_Goes p.tables e below (s₁.setTop (mkF m 32 #[.val (.int p0), .val (.long q1), .second, .val (.int p2), .val (.int z7)] [])) _
        refine own_step (fun _ => XS.bipush X0.here hx rfl (hb hby d1_32)) ?_
        show own_Goes p.tables e below (s₁.setTop (mkF m 34 #[.val (.int p0), .val (.long q1), .second, .val (.int p2), .val (.int z7)] [(.int (32 : Int32))])) _
        have hv : (own_f1 p0 q1 p2) = (nar .byte (32 : Int32)) := by subst hz7; exact (((if_neg hc11)).trans (if_neg hc20)).trans (if_pos hc29)
        rw [hv]
        exact own_retN X0 hx (t := .byte) Bd.returns (by simp) (hb hby d1_34) (BodyLoose.notSynchronized Bd) (w := (nar .byte (32 : Int32))) rfl ⟨rfl, rfl, e0⟩ (by decide) (by decide)
      · refine own_step (fun _ => XS.icmpYes X0.here hx rfl (pc0 := 29) (pc' := 35) rfl (hb hby d1_29) rfl (Jvm.Free.XT.ii_ne_t hc29) (by decide) (by decide)) ?_
        show own_Goes p.tables e below (s₁.setTop (mkF m 35 #[.val (.int p0), .val (.long q1), .second, .val (.int p2), .val (.int z7)] [])) _
        refine own_step (fun _ => XS.lloadN X0.here hx rfl (hb hby d1_35) rfl) ?_
        show own_Goes p.tables e below (s₁.setTop (mkF m 36 #[.val (.int p0), .val (.long q1), .second, .val (.int p2), .val (.int z7)] [(.long q1)])) _
        refine own_step (fun _ => XS.bipush X0.here hx rfl (hb hby d1_36)) ?_
        show own_Goes p.tables e below (s₁.setTop (mkF m 38 #[.val (.int p0), .val (.long q1), .second, .val (.int p2), .val (.int z7)] [(.int (8 : Int32)), (.long q1)])) _
        refine own_step (fun _ => XS.iloadN X0.here hx rfl (hb hby d1_38) rfl) ?_
        show own_Goes p.tables e below (s₁.setTop (mkF m 39 #[.val (.int p0), .val (.long q1), .second, .val (.int p2), .val (.int z7)] [(.int p2), (.int (8 : Int32)), (.long q1)])) _
        refine own_step (fun _ => XS.imul X0.here hx rfl (hb hby d1_39) rfl) ?_
        show own_Goes p.tables e below (s₁.setTop (mkF m 40 #[.val (.int p0), .val (.long q1), .second, .val (.int p2), .val (.int z7)] [(.int ((8 : Int32) * p2)), (.long q1)])) _
        refine own_step (fun _ => XS.lushr X0.here hx rfl (hb hby d1_40) rfl) ?_
        show own_Goes p.tables e below (s₁.setTop (mkF m 41 #[.val (.int p0), .val (.long q1), .second, .val (.int p2), .val (.int z7)] [(.long ((q1.toUInt64 >>> (((8 : Int32) * p2) &&& 0x3f).toInt64.toUInt64).toInt64))])) _
        refine own_step (fun _ => XS.l2i X0.here hx rfl (hb hby d1_41) rfl) ?_
        show own_Goes p.tables e below (s₁.setTop (mkF m 42 #[.val (.int p0), .val (.long q1), .second, .val (.int p2), .val (.int z7)] [(.int (((q1.toUInt64 >>> (((8 : Int32) * p2) &&& 0x3f).toInt64.toUInt64).toInt64).toInt32))])) _
        refine own_step (fun _ => XS.i2b X0.here hx rfl (hb hby d1_42) rfl) ?_
        show own_Goes p.tables e below (s₁.setTop (mkF m 43 #[.val (.int p0), .val (.long q1), .second, .val (.int p2), .val (.int z7)] [(.int ((((q1.toUInt64 >>> (((8 : Int32) * p2) &&& 0x3f).toInt64.toUInt64).toInt64).toInt32).toInt8.toInt32))])) _
        have hv : (own_f1 p0 q1 p2) = (nar .byte ((((q1.toUInt64 >>> (((8 : Int32) * p2) &&& 0x3f).toInt64.toUInt64).toInt64).toInt32).toInt8.toInt32)) := by subst hz7; exact (((if_neg hc11)).trans (if_neg hc20)).trans (if_neg hc29)
        rw [hv]
        exact own_retN X0 hx (t := .byte) Bd.returns (by simp) (hb hby d1_43) (BodyLoose.notSynchronized Bd) (w := (nar .byte ((((q1.toUInt64 >>> (((8 : Int32) * p2) &&& 0x3f).toInt64.toUInt64).toInt64).toInt32).toInt8.toInt32))) rfl ⟨rfl, rfl, e0⟩ (by decide) (by decide)
theorem d2_0 : decode method_3_code 0 = .ok (.iload_n 3, 1) := by decide +kernel
theorem d2_1 : decode method_3_code 1 = .ok (.iload_n 2, 1) := by decide +kernel
theorem d2_2 : decode method_3_code 2 = .ok (.if_icmp .gt 10, 3) := by decide +kernel
theorem d2_5 : decode method_3_code 5 = .ok (.iload_n 3, 1) := by decide +kernel
theorem d2_6 : decode method_3_code 6 = .ok (.iconst 2, 1) := by decide +kernel
theorem d2_7 : decode method_3_code 7 = .ok (.isub, 1) := by decide +kernel
theorem d2_8 : decode method_3_code 8 = .ok (.iload_n 1, 1) := by decide +kernel
theorem d2_9 : decode method_3_code 9 = .ok (.if_icmp .ge 5, 3) := by decide +kernel
theorem d2_12 : decode method_3_code 12 = .ok (.iconst 0, 1) := by decide +kernel
theorem d2_13 : decode method_3_code 13 = .ok (.ireturn, 1) := by decide +kernel
theorem d2_14 : decode method_3_code 14 = .ok (.aload_n 0, 1) := by decide +kernel
theorem d2_15 : decode method_3_code 15 = .ok (.iload_n 3, 1) := by decide +kernel
theorem d2_16 : decode method_3_code 16 = .ok (.iconst 1, 1) := by decide +kernel
theorem d2_17 : decode method_3_code 17 = .ok (.isub, 1) := by decide +kernel
theorem d2_18 : decode method_3_code 18 = .ok (.baload, 1) := by decide +kernel
theorem d2_19 : decode method_3_code 19 = .ok (.bipush 10, 2) := by decide +kernel
theorem d2_21 : decode method_3_code 21 = .ok (.if_icmp .eq 5, 3) := by decide +kernel
theorem d2_24 : decode method_3_code 24 = .ok (.iconst 0, 1) := by decide +kernel
theorem d2_25 : decode method_3_code 25 = .ok (.ireturn, 1) := by decide +kernel
theorem d2_26 : decode method_3_code 26 = .ok (.aload_n 0, 1) := by decide +kernel
theorem d2_27 : decode method_3_code 27 = .ok (.iload_n 3, 1) := by decide +kernel
theorem d2_28 : decode method_3_code 28 = .ok (.iconst 2, 1) := by decide +kernel
theorem d2_29 : decode method_3_code 29 = .ok (.isub, 1) := by decide +kernel
theorem d2_30 : decode method_3_code 30 = .ok (.baload, 1) := by decide +kernel
theorem d2_31 : decode method_3_code 31 = .ok (.bipush 10, 2) := by decide +kernel
theorem d2_33 : decode method_3_code 33 = .ok (.if_icmp .ne 5, 3) := by decide +kernel
theorem d2_36 : decode method_3_code 36 = .ok (.iconst 1, 1) := by decide +kernel
theorem d2_37 : decode method_3_code 37 = .ok (.ireturn, 1) := by decide +kernel
theorem d2_38 : decode method_3_code 38 = .ok (.iload_n 3, 1) := by decide +kernel
theorem d2_39 : decode method_3_code 39 = .ok (.iconst 3, 1) := by decide +kernel
theorem d2_40 : decode method_3_code 40 = .ok (.isub, 1) := by decide +kernel
theorem d2_41 : decode method_3_code 41 = .ok (.iload_n 1, 1) := by decide +kernel
theorem d2_42 : decode method_3_code 42 = .ok (.if_icmp .lt 27, 3) := by decide +kernel
theorem d2_45 : decode method_3_code 45 = .ok (.aload_n 0, 1) := by decide +kernel
theorem d2_46 : decode method_3_code 46 = .ok (.iload_n 3, 1) := by decide +kernel
theorem d2_47 : decode method_3_code 47 = .ok (.iconst 2, 1) := by decide +kernel
theorem d2_48 : decode method_3_code 48 = .ok (.isub, 1) := by decide +kernel
theorem d2_49 : decode method_3_code 49 = .ok (.baload, 1) := by decide +kernel
theorem d2_50 : decode method_3_code 50 = .ok (.bipush 13, 2) := by decide +kernel
theorem d2_52 : decode method_3_code 52 = .ok (.if_icmp .ne 17, 3) := by decide +kernel
theorem d2_55 : decode method_3_code 55 = .ok (.aload_n 0, 1) := by decide +kernel
theorem d2_56 : decode method_3_code 56 = .ok (.iload_n 3, 1) := by decide +kernel
theorem d2_57 : decode method_3_code 57 = .ok (.iconst 3, 1) := by decide +kernel
theorem d2_58 : decode method_3_code 58 = .ok (.isub, 1) := by decide +kernel
theorem d2_59 : decode method_3_code 59 = .ok (.baload, 1) := by decide +kernel
theorem d2_60 : decode method_3_code 60 = .ok (.bipush 10, 2) := by decide +kernel
theorem d2_62 : decode method_3_code 62 = .ok (.if_icmp .ne 7, 3) := by decide +kernel
theorem d2_65 : decode method_3_code 65 = .ok (.iconst 1, 1) := by decide +kernel
theorem d2_66 : decode method_3_code 66 = .ok (.goto 4, 3) := by decide +kernel
theorem d2_69 : decode method_3_code 69 = .ok (.iconst 0, 1) := by decide +kernel
theorem d2_70 : decode method_3_code 70 = .ok (.ireturn, 1) := by decide +kernel
theorem pn_2 : plainName "com/example/sandpiper/sandpiper/broker/RequestHeadEndPinLaw" = true := by first | (simp [plainName, overriddenIn]; done) | decide +kernel
theorem ef_2 (m : MethodId) (r0 : Addr) (p1 : Int32) (p2 : Int32) (p3 : Int32) : entryFrame m #[(.ref r0), (.int p1), (.int p2), (.int p3)] 4 = mkF m 0 #[.val (.ref r0), .val (.int p1), .val (.int p2), .val (.int p3)] [] := by first | (simp [entryFrame, mkF, argsToLocals, Value.category]; done) | rfl
def own_f2_12 : Int32 :=
  (0 : Int32)
def own_f2_69 : Int32 :=
  (0 : Int32)
def own_f2 (ys : List Int32) (p1 : Int32) (p2 : Int32) (p3 : Int32) : Int32 :=
  if p2 < p3 then
    (own_f2_12)
  else
    if (p3 - (2 : Int32)) < p1 then
      (own_f2_12)
    else
      if (ys.getD (p3 - (1 : Int32)).toNatClampNeg 0) = (10 : Int32) then
        if (ys.getD (p3 - (2 : Int32)).toNatClampNeg 0) = (10 : Int32) then
          (1 : Int32)
        else
          if (p3 - (3 : Int32)) < p1 then
            (own_f2_69)
          else
            if (ys.getD (p3 - (2 : Int32)).toNatClampNeg 0) = (13 : Int32) then
              if (ys.getD (p3 - (3 : Int32)).toNatClampNeg 0) = (10 : Int32) then
                (1 : Int32)
              else
                (own_f2_69)
            else
              (own_f2_69)
      else
        (0 : Int32)
abbrev own_room2 : Room := { frames := 0, cells := 0, slots := 0, locals := 0 }
set_option maxRecDepth 65536 in
set_option maxHeartbeats 40000000 in
theorem rm2 (l : Launch) (Z : State) (a0 : Array Value) (hw : ∀ d ∈ tables_1, d.before a0 Z = true) (ws : List Jvm.Cond) (r0 : Addr) (p1 : Int32) (p2 : Int32) (p3 : Int32) (ys : List Int32) (k_r0 : ClassId) (h0 : Heap) (n0 : Nat) (Z0 : n0 ≤ h0.size) (V_r0 : own_A Z h0 r0 k_r0 .byte (6 : Int32) ys) (hp : own_ft p1 p2) (hr : 2 ≤ p3.toInt ∧ p3.toInt ≤ 6) :
    MetFree l (⟨"com/example/sandpiper/sandpiper/broker/RequestHeadEndPinLaw", "endsAt", "([BIII)Z"⟩ : MethodName) (head1 (Jvm.Cond.code (⟨"com/example/sandpiper/sandpiper/broker/RequestHeadEndPinLaw", "endsAt", "([BIII)Z"⟩ : MethodName) method_3_code 4 (some .boolean) :: ws) own_room2) (fun a U => a = #[(.ref r0), (.int p1), (.int p2), (.int p3)] ∧ Z.Warmed39 U.vm ∧ U.heap = h0) (fun _ _ _ _ _ => True) (fun _ U o U' => ∃ v L, o = .returned v ∧ own_Qp (some (.int (own_f2 ys p1 p2 p3))) h0 v U'.heap L ∧ FrameEnd U o U' L own_room2.cells own_room2.slots) := by
  refine MetFree.of_bodySF (plainFor_of_name pn_2) hisR ?_
  intro p e s m args below meth c s₁ Bd hml0 hP hK
  obtain ⟨rfl, hZ, hh⟩ := hP
  have hx := Bd.exec
  have hby := Bd.bytes
  have hml : c.maxLocals = 4 := hml0
  have hown : s.vm.findClass "com/example/sandpiper/sandpiper/broker/RequestHeadEndPinLaw" = some m.cls := findClass_of_methodNamed Bd.named
  have hnm := (name_of_methodNamed Bd.named Bd.method).1
  have X0 : Stand p l e own_room2 s m #[(.ref r0), (.int p1), (.int p2), (.int p3)] below meth c s₁ [] 0 0 := Stand.of_body Bd
  have e0 : s₁.heap = h0 := by rw [← hh, Bd.state]; rfl
  have N0 := Fr.nil n0
  refine own_enter (ef_2 m r0 p1 p2 p3) ?_
  show own_Goes p.tables e below (s₁.setTop (mkF m 0 #[.val (.ref r0), .val (.int p1), .val (.int p2), .val (.int p3)] [])) (own_P s (own_Qp (some (.int (own_f2 ys p1 p2 p3))) h0) own_room2.cells own_room2.slots)
  refine own_step (fun _ => XS.iloadN X0.here hx rfl (hb hby d2_0) rfl) ?_
  show own_Goes p.tables e below (s₁.setTop (mkF m 1 #[.val (.ref r0), .val (.int p1), .val (.int p2), .val (.int p3)] [(.int p3)])) _
  refine own_step (fun _ => XS.iloadN X0.here hx rfl (hb hby d2_1) rfl) ?_
  show own_Goes p.tables e below (s₁.setTop (mkF m 2 #[.val (.ref r0), .val (.int p1), .val (.int p2), .val (.int p3)] [(.int p2), (.int p3)])) _
  have J12 : ∀ (T_12 : State) (X_12 : Stand p l e own_room2 s m #[(.ref r0), (.int p1), (.int p2), (.int p3)] below meth c T_12 [] 0 0) (e_12 : T_12.heap = h0), own_Goes p.tables e below (T_12.setTop (mkF m 12 #[.val (.ref r0), .val (.int p1), .val (.int p2), .val (.int p3)] [])) (own_P s (own_Qp (some (.int (own_f2_12))) h0) own_room2.cells own_room2.slots) := by
    intro T_12 X_12 e_12
    refine own_step (fun _ => XS.iconst X_12.here hx rfl (hb hby d2_12)) ?_
    show own_Goes p.tables e below (T_12.setTop (mkF m 13 #[.val (.ref r0), .val (.int p1), .val (.int p2), .val (.int p3)] [(.int (0 : Int32))])) _
    have hv : (own_f2_12) = (0 : Int32) := by exact rfl
    rw [hv]
    exact own_retN X_12 hx (t := .boolean) Bd.returns (by simp) (hb hby d2_13) (BodyLoose.notSynchronized Bd) (w := (0 : Int32)) rfl ⟨rfl, rfl, e_12⟩ (by decide) (by decide)
  by_cases hc2 : p2 < p3
  · refine own_step (fun _ => XS.icmpYes X0.here hx rfl (pc0 := 2) (pc' := 12) rfl (hb hby d2_2) rfl (Jvm.Free.XT.ii_gt_t hc2) (by decide) (by decide)) ?_
    show own_Goes p.tables e below (s₁.setTop (mkF m 12 #[.val (.ref r0), .val (.int p1), .val (.int p2), .val (.int p3)] [])) _
    have hv : (own_f2 ys p1 p2 p3) = (own_f2_12) := by exact (if_pos hc2)
    rw [hv]
    exact J12 s₁ X0 e0
  · refine own_step (fun _ => XS.icmpNo X0.here hx rfl (hb hby d2_2) rfl (Jvm.Free.XT.ii_gt_f hc2)) ?_
    show own_Goes p.tables e below (s₁.setTop (mkF m 5 #[.val (.ref r0), .val (.int p1), .val (.int p2), .val (.int p3)] [])) _
    refine own_step (fun _ => XS.iloadN X0.here hx rfl (hb hby d2_5) rfl) ?_
    show own_Goes p.tables e below (s₁.setTop (mkF m 6 #[.val (.ref r0), .val (.int p1), .val (.int p2), .val (.int p3)] [(.int p3)])) _
    refine own_step (fun _ => XS.iconst X0.here hx rfl (hb hby d2_6)) ?_
    show own_Goes p.tables e below (s₁.setTop (mkF m 7 #[.val (.ref r0), .val (.int p1), .val (.int p2), .val (.int p3)] [(.int (2 : Int32)), (.int p3)])) _
    refine own_step (fun _ => XS.isub X0.here hx rfl (hb hby d2_7) rfl) ?_
    show own_Goes p.tables e below (s₁.setTop (mkF m 8 #[.val (.ref r0), .val (.int p1), .val (.int p2), .val (.int p3)] [(.int (p3 - (2 : Int32)))])) _
    refine own_step (fun _ => XS.iloadN X0.here hx rfl (hb hby d2_8) rfl) ?_
    show own_Goes p.tables e below (s₁.setTop (mkF m 9 #[.val (.ref r0), .val (.int p1), .val (.int p2), .val (.int p3)] [(.int p1), (.int (p3 - (2 : Int32)))])) _
    by_cases hc9 : (p3 - (2 : Int32)) < p1
    · refine own_step (fun _ => XS.icmpNo X0.here hx rfl (hb hby d2_9) rfl (Jvm.Free.XT.ii_ge_f hc9)) ?_
      show own_Goes p.tables e below (s₁.setTop (mkF m 12 #[.val (.ref r0), .val (.int p1), .val (.int p2), .val (.int p3)] [])) _
      have hv : (own_f2 ys p1 p2 p3) = (own_f2_12) := by exact ((if_neg hc2)).trans (if_pos hc9)
      rw [hv]
      exact J12 s₁ X0 e0
    · refine own_step (fun _ => XS.icmpYes X0.here hx rfl (pc0 := 9) (pc' := 14) rfl (hb hby d2_9) rfl (Jvm.Free.XT.ii_ge_t hc9) (by decide) (by decide)) ?_
      show own_Goes p.tables e below (s₁.setTop (mkF m 14 #[.val (.ref r0), .val (.int p1), .val (.int p2), .val (.int p3)] [])) _
      refine own_step (fun _ => XS.aloadN X0.here hx rfl (hb hby d2_14) rfl rfl) ?_
      show own_Goes p.tables e below (s₁.setTop (mkF m 15 #[.val (.ref r0), .val (.int p1), .val (.int p2), .val (.int p3)] [(.ref r0)])) _
      refine own_step (fun _ => XS.iloadN X0.here hx rfl (hb hby d2_15) rfl) ?_
      show own_Goes p.tables e below (s₁.setTop (mkF m 16 #[.val (.ref r0), .val (.int p1), .val (.int p2), .val (.int p3)] [(.int p3), (.ref r0)])) _
      refine own_step (fun _ => XS.iconst X0.here hx rfl (hb hby d2_16)) ?_
      show own_Goes p.tables e below (s₁.setTop (mkF m 17 #[.val (.ref r0), .val (.int p1), .val (.int p2), .val (.int p3)] [(.int (1 : Int32)), (.int p3), (.ref r0)])) _
      refine own_step (fun _ => XS.isub X0.here hx rfl (hb hby d2_17) rfl) ?_
      show own_Goes p.tables e below (s₁.setTop (mkF m 18 #[.val (.ref r0), .val (.int p1), .val (.int p2), .val (.int p3)] [(.int (p3 - (1 : Int32))), (.ref r0)])) _
      refine own_step (own_ldB X0 hx hZ e0 V_r0 (j := (p3 - (1 : Int32))) (own_back hr (by decide)) (g := (mkF m 18 #[.val (.ref r0), .val (.int p1), .val (.int p2), .val (.int p3)] [(.int (p3 - (1 : Int32))), (.ref r0)])) rfl rfl (hb hby d2_18)) ?_
      show own_Goes p.tables e below (s₁.setTop (mkF m 19 #[.val (.ref r0), .val (.int p1), .val (.int p2), .val (.int p3)] [(.int (ys.getD (p3 - (1 : Int32)).toNatClampNeg 0))])) _
      refine own_step (fun _ => XS.bipush X0.here hx rfl (hb hby d2_19)) ?_
      show own_Goes p.tables e below (s₁.setTop (mkF m 21 #[.val (.ref r0), .val (.int p1), .val (.int p2), .val (.int p3)] [(.int (10 : Int32)), (.int (ys.getD (p3 - (1 : Int32)).toNatClampNeg 0))])) _
      by_cases hc21 : (ys.getD (p3 - (1 : Int32)).toNatClampNeg 0) = (10 : Int32)
      · refine own_step (fun _ => XS.icmpYes X0.here hx rfl (pc0 := 21) (pc' := 26) rfl (hb hby d2_21) rfl (Jvm.Free.XT.ii_eq_t hc21) (by decide) (by decide)) ?_
        show own_Goes p.tables e below (s₁.setTop (mkF m 26 #[.val (.ref r0), .val (.int p1), .val (.int p2), .val (.int p3)] [])) _
        refine own_step (fun _ => XS.aloadN X0.here hx rfl (hb hby d2_26) rfl rfl) ?_
        show own_Goes p.tables e below (s₁.setTop (mkF m 27 #[.val (.ref r0), .val (.int p1), .val (.int p2), .val (.int p3)] [(.ref r0)])) _
        refine own_step (fun _ => XS.iloadN X0.here hx rfl (hb hby d2_27) rfl) ?_
        show own_Goes p.tables e below (s₁.setTop (mkF m 28 #[.val (.ref r0), .val (.int p1), .val (.int p2), .val (.int p3)] [(.int p3), (.ref r0)])) _
        refine own_step (fun _ => XS.iconst X0.here hx rfl (hb hby d2_28)) ?_
        show own_Goes p.tables e below (s₁.setTop (mkF m 29 #[.val (.ref r0), .val (.int p1), .val (.int p2), .val (.int p3)] [(.int (2 : Int32)), (.int p3), (.ref r0)])) _
        refine own_step (fun _ => XS.isub X0.here hx rfl (hb hby d2_29) rfl) ?_
        show own_Goes p.tables e below (s₁.setTop (mkF m 30 #[.val (.ref r0), .val (.int p1), .val (.int p2), .val (.int p3)] [(.int (p3 - (2 : Int32))), (.ref r0)])) _
        refine own_step (own_ldB X0 hx hZ e0 V_r0 (j := (p3 - (2 : Int32))) (own_back hr (by decide)) (g := (mkF m 30 #[.val (.ref r0), .val (.int p1), .val (.int p2), .val (.int p3)] [(.int (p3 - (2 : Int32))), (.ref r0)])) rfl rfl (hb hby d2_30)) ?_
        show own_Goes p.tables e below (s₁.setTop (mkF m 31 #[.val (.ref r0), .val (.int p1), .val (.int p2), .val (.int p3)] [(.int (ys.getD (p3 - (2 : Int32)).toNatClampNeg 0))])) _
        refine own_step (fun _ => XS.bipush X0.here hx rfl (hb hby d2_31)) ?_
        show own_Goes p.tables e below (s₁.setTop (mkF m 33 #[.val (.ref r0), .val (.int p1), .val (.int p2), .val (.int p3)] [(.int (10 : Int32)), (.int (ys.getD (p3 - (2 : Int32)).toNatClampNeg 0))])) _
        by_cases hc33 : (ys.getD (p3 - (2 : Int32)).toNatClampNeg 0) = (10 : Int32)
        · refine own_step (fun _ => XS.icmpNo X0.here hx rfl (hb hby d2_33) rfl (Jvm.Free.XT.ii_ne_f hc33)) ?_
          show own_Goes p.tables e below (s₁.setTop (mkF m 36 #[.val (.ref r0), .val (.int p1), .val (.int p2), .val (.int p3)] [])) _
          refine own_step (fun _ => XS.iconst X0.here hx rfl (hb hby d2_36)) ?_
          show own_Goes p.tables e below (s₁.setTop (mkF m 37 #[.val (.ref r0), .val (.int p1), .val (.int p2), .val (.int p3)] [(.int (1 : Int32))])) _
          have hv : (own_f2 ys p1 p2 p3) = (1 : Int32) := by exact ((((if_neg hc2)).trans (if_neg hc9)).trans (if_pos hc21)).trans (if_pos hc33)
          rw [hv]
          exact own_retN X0 hx (t := .boolean) Bd.returns (by simp) (hb hby d2_37) (BodyLoose.notSynchronized Bd) (w := (1 : Int32)) rfl ⟨rfl, rfl, e0⟩ (by decide) (by decide)
        · refine own_step (fun _ => XS.icmpYes X0.here hx rfl (pc0 := 33) (pc' := 38) rfl (hb hby d2_33) rfl (Jvm.Free.XT.ii_ne_t hc33) (by decide) (by decide)) ?_
          show own_Goes p.tables e below (s₁.setTop (mkF m 38 #[.val (.ref r0), .val (.int p1), .val (.int p2), .val (.int p3)] [])) _
          refine own_step (fun _ => XS.iloadN X0.here hx rfl (hb hby d2_38) rfl) ?_
          show own_Goes p.tables e below (s₁.setTop (mkF m 39 #[.val (.ref r0), .val (.int p1), .val (.int p2), .val (.int p3)] [(.int p3)])) _
          refine own_step (fun _ => XS.iconst X0.here hx rfl (hb hby d2_39)) ?_
          show own_Goes p.tables e below (s₁.setTop (mkF m 40 #[.val (.ref r0), .val (.int p1), .val (.int p2), .val (.int p3)] [(.int (3 : Int32)), (.int p3)])) _
          refine own_step (fun _ => XS.isub X0.here hx rfl (hb hby d2_40) rfl) ?_
          show own_Goes p.tables e below (s₁.setTop (mkF m 41 #[.val (.ref r0), .val (.int p1), .val (.int p2), .val (.int p3)] [(.int (p3 - (3 : Int32)))])) _
          refine own_step (fun _ => XS.iloadN X0.here hx rfl (hb hby d2_41) rfl) ?_
          show own_Goes p.tables e below (s₁.setTop (mkF m 42 #[.val (.ref r0), .val (.int p1), .val (.int p2), .val (.int p3)] [(.int p1), (.int (p3 - (3 : Int32)))])) _
          have J69 : ∀ (T_69 : State) (X_69 : Stand p l e own_room2 s m #[(.ref r0), (.int p1), (.int p2), (.int p3)] below meth c T_69 [] 0 0) (e_69 : T_69.heap = h0), own_Goes p.tables e below (T_69.setTop (mkF m 69 #[.val (.ref r0), .val (.int p1), .val (.int p2), .val (.int p3)] [])) (own_P s (own_Qp (some (.int (own_f2_69))) h0) own_room2.cells own_room2.slots) := by
            intro T_69 X_69 e_69
            refine own_step (fun _ => XS.iconst X_69.here hx rfl (hb hby d2_69)) ?_
            show own_Goes p.tables e below (T_69.setTop (mkF m 70 #[.val (.ref r0), .val (.int p1), .val (.int p2), .val (.int p3)] [(.int (0 : Int32))])) _
            have hv : (own_f2_69) = (0 : Int32) := by exact rfl
            rw [hv]
            exact own_retN X_69 hx (t := .boolean) Bd.returns (by simp) (hb hby d2_70) (BodyLoose.notSynchronized Bd) (w := (0 : Int32)) rfl ⟨rfl, rfl, e_69⟩ (by decide) (by decide)
          by_cases hc42 : (p3 - (3 : Int32)) < p1
          · refine own_step (fun _ => XS.icmpYes X0.here hx rfl (pc0 := 42) (pc' := 69) rfl (hb hby d2_42) rfl (Jvm.Free.XT.ii_lt_t hc42) (by decide) (by decide)) ?_
            show own_Goes p.tables e below (s₁.setTop (mkF m 69 #[.val (.ref r0), .val (.int p1), .val (.int p2), .val (.int p3)] [])) _
            have hv : (own_f2 ys p1 p2 p3) = (own_f2_69) := by exact (((((if_neg hc2)).trans (if_neg hc9)).trans (if_pos hc21)).trans (if_neg hc33)).trans (if_pos hc42)
            rw [hv]
            exact J69 s₁ X0 e0
          · refine own_step (fun _ => XS.icmpNo X0.here hx rfl (hb hby d2_42) rfl (Jvm.Free.XT.ii_lt_f hc42)) ?_
            show own_Goes p.tables e below (s₁.setTop (mkF m 45 #[.val (.ref r0), .val (.int p1), .val (.int p2), .val (.int p3)] [])) _
            refine own_step (fun _ => XS.aloadN X0.here hx rfl (hb hby d2_45) rfl rfl) ?_
            show own_Goes p.tables e below (s₁.setTop (mkF m 46 #[.val (.ref r0), .val (.int p1), .val (.int p2), .val (.int p3)] [(.ref r0)])) _
            refine own_step (fun _ => XS.iloadN X0.here hx rfl (hb hby d2_46) rfl) ?_
            show own_Goes p.tables e below (s₁.setTop (mkF m 47 #[.val (.ref r0), .val (.int p1), .val (.int p2), .val (.int p3)] [(.int p3), (.ref r0)])) _
            refine own_step (fun _ => XS.iconst X0.here hx rfl (hb hby d2_47)) ?_
            show own_Goes p.tables e below (s₁.setTop (mkF m 48 #[.val (.ref r0), .val (.int p1), .val (.int p2), .val (.int p3)] [(.int (2 : Int32)), (.int p3), (.ref r0)])) _
            refine own_step (fun _ => XS.isub X0.here hx rfl (hb hby d2_48) rfl) ?_
            show own_Goes p.tables e below (s₁.setTop (mkF m 49 #[.val (.ref r0), .val (.int p1), .val (.int p2), .val (.int p3)] [(.int (p3 - (2 : Int32))), (.ref r0)])) _
            refine own_step (own_ldB X0 hx hZ e0 V_r0 (j := (p3 - (2 : Int32))) (own_back hr (by decide)) (g := (mkF m 49 #[.val (.ref r0), .val (.int p1), .val (.int p2), .val (.int p3)] [(.int (p3 - (2 : Int32))), (.ref r0)])) rfl rfl (hb hby d2_49)) ?_
            show own_Goes p.tables e below (s₁.setTop (mkF m 50 #[.val (.ref r0), .val (.int p1), .val (.int p2), .val (.int p3)] [(.int (ys.getD (p3 - (2 : Int32)).toNatClampNeg 0))])) _
            refine own_step (fun _ => XS.bipush X0.here hx rfl (hb hby d2_50)) ?_
            show own_Goes p.tables e below (s₁.setTop (mkF m 52 #[.val (.ref r0), .val (.int p1), .val (.int p2), .val (.int p3)] [(.int (13 : Int32)), (.int (ys.getD (p3 - (2 : Int32)).toNatClampNeg 0))])) _
            by_cases hc52 : (ys.getD (p3 - (2 : Int32)).toNatClampNeg 0) = (13 : Int32)
            · refine own_step (fun _ => XS.icmpNo X0.here hx rfl (hb hby d2_52) rfl (Jvm.Free.XT.ii_ne_f hc52)) ?_
              show own_Goes p.tables e below (s₁.setTop (mkF m 55 #[.val (.ref r0), .val (.int p1), .val (.int p2), .val (.int p3)] [])) _
              refine own_step (fun _ => XS.aloadN X0.here hx rfl (hb hby d2_55) rfl rfl) ?_
              show own_Goes p.tables e below (s₁.setTop (mkF m 56 #[.val (.ref r0), .val (.int p1), .val (.int p2), .val (.int p3)] [(.ref r0)])) _
              refine own_step (fun _ => XS.iloadN X0.here hx rfl (hb hby d2_56) rfl) ?_
              show own_Goes p.tables e below (s₁.setTop (mkF m 57 #[.val (.ref r0), .val (.int p1), .val (.int p2), .val (.int p3)] [(.int p3), (.ref r0)])) _
              refine own_step (fun _ => XS.iconst X0.here hx rfl (hb hby d2_57)) ?_
              show own_Goes p.tables e below (s₁.setTop (mkF m 58 #[.val (.ref r0), .val (.int p1), .val (.int p2), .val (.int p3)] [(.int (3 : Int32)), (.int p3), (.ref r0)])) _
              refine own_step (fun _ => XS.isub X0.here hx rfl (hb hby d2_58) rfl) ?_
              show own_Goes p.tables e below (s₁.setTop (mkF m 59 #[.val (.ref r0), .val (.int p1), .val (.int p2), .val (.int p3)] [(.int (p3 - (3 : Int32))), (.ref r0)])) _
              refine own_step (own_ldB X0 hx hZ e0 V_r0 (j := (p3 - (3 : Int32))) (own_back3 hr hp hc42) (g := (mkF m 59 #[.val (.ref r0), .val (.int p1), .val (.int p2), .val (.int p3)] [(.int (p3 - (3 : Int32))), (.ref r0)])) rfl rfl (hb hby d2_59)) ?_
              show own_Goes p.tables e below (s₁.setTop (mkF m 60 #[.val (.ref r0), .val (.int p1), .val (.int p2), .val (.int p3)] [(.int (ys.getD (p3 - (3 : Int32)).toNatClampNeg 0))])) _
              refine own_step (fun _ => XS.bipush X0.here hx rfl (hb hby d2_60)) ?_
              show own_Goes p.tables e below (s₁.setTop (mkF m 62 #[.val (.ref r0), .val (.int p1), .val (.int p2), .val (.int p3)] [(.int (10 : Int32)), (.int (ys.getD (p3 - (3 : Int32)).toNatClampNeg 0))])) _
              by_cases hc62 : (ys.getD (p3 - (3 : Int32)).toNatClampNeg 0) = (10 : Int32)
              · refine own_step (fun _ => XS.icmpNo X0.here hx rfl (hb hby d2_62) rfl (Jvm.Free.XT.ii_ne_f hc62)) ?_
                show own_Goes p.tables e below (s₁.setTop (mkF m 65 #[.val (.ref r0), .val (.int p1), .val (.int p2), .val (.int p3)] [])) _
                refine own_step (fun _ => XS.iconst X0.here hx rfl (hb hby d2_65)) ?_
                show own_Goes p.tables e below (s₁.setTop (mkF m 66 #[.val (.ref r0), .val (.int p1), .val (.int p2), .val (.int p3)] [(.int (1 : Int32))])) _
                refine own_step (fun _ => XS.goto X0.here hx rfl (pc0 := 66) (pc' := 70) rfl (hb hby d2_66) (by decide) (by decide)) ?_
                show own_Goes p.tables e below (s₁.setTop (mkF m 70 #[.val (.ref r0), .val (.int p1), .val (.int p2), .val (.int p3)] [(.int (1 : Int32))])) _
                have hv : (own_f2 ys p1 p2 p3) = (1 : Int32) := by exact (((((((if_neg hc2)).trans (if_neg hc9)).trans (if_pos hc21)).trans (if_neg hc33)).trans (if_neg hc42)).trans (if_pos hc52)).trans (if_pos hc62)
                rw [hv]
                exact own_retN X0 hx (t := .boolean) Bd.returns (by simp) (hb hby d2_70) (BodyLoose.notSynchronized Bd) (w := (1 : Int32)) rfl ⟨rfl, rfl, e0⟩ (by decide) (by decide)
              · refine own_step (fun _ => XS.icmpYes X0.here hx rfl (pc0 := 62) (pc' := 69) rfl (hb hby d2_62) rfl (Jvm.Free.XT.ii_ne_t hc62) (by decide) (by decide)) ?_
                show own_Goes p.tables e below (s₁.setTop (mkF m 69 #[.val (.ref r0), .val (.int p1), .val (.int p2), .val (.int p3)] [])) _
                have hv : (own_f2 ys p1 p2 p3) = (own_f2_69) := by exact (((((((if_neg hc2)).trans (if_neg hc9)).trans (if_pos hc21)).trans (if_neg hc33)).trans (if_neg hc42)).trans (if_pos hc52)).trans (if_neg hc62)
                rw [hv]
                exact J69 s₁ X0 e0
            · refine own_step (fun _ => XS.icmpYes X0.here hx rfl (pc0 := 52) (pc' := 69) rfl (hb hby d2_52) rfl (Jvm.Free.XT.ii_ne_t hc52) (by decide) (by decide)) ?_
              show own_Goes p.tables e below (s₁.setTop (mkF m 69 #[.val (.ref r0), .val (.int p1), .val (.int p2), .val (.int p3)] [])) _
              have hv : (own_f2 ys p1 p2 p3) = (own_f2_69) := by exact ((((((if_neg hc2)).trans (if_neg hc9)).trans (if_pos hc21)).trans (if_neg hc33)).trans (if_neg hc42)).trans (if_neg hc52)
              rw [hv]
              exact J69 s₁ X0 e0
      · refine own_step (fun _ => XS.icmpNo X0.here hx rfl (hb hby d2_21) rfl (Jvm.Free.XT.ii_eq_f hc21)) ?_
        show own_Goes p.tables e below (s₁.setTop (mkF m 24 #[.val (.ref r0), .val (.int p1), .val (.int p2), .val (.int p3)] [])) _
        refine own_step (fun _ => XS.iconst X0.here hx rfl (hb hby d2_24)) ?_
        show own_Goes p.tables e below (s₁.setTop (mkF m 25 #[.val (.ref r0), .val (.int p1), .val (.int p2), .val (.int p3)] [(.int (0 : Int32))])) _
        have hv : (own_f2 ys p1 p2 p3) = (0 : Int32) := by exact (((if_neg hc2)).trans (if_neg hc9)).trans (if_neg hc21)
        rw [hv]
        exact own_retN X0 hx (t := .boolean) Bd.returns (by simp) (hb hby d2_25) (BodyLoose.notSynchronized Bd) (w := (0 : Int32)) rfl ⟨rfl, rfl, e0⟩ (by decide) (by decide)
theorem d3_0 : decode prog_19_method_2_code 0 = .ok (.iload_n 1, 1) := by decide +kernel
theorem d3_1 : decode prog_19_method_2_code 1 = .ok (.istore_n 3, 1) := by decide +kernel
theorem d3_2 : decode prog_19_method_2_code 2 = .ok (.iload_n 3, 1) := by decide +kernel
theorem d3_3 : decode prog_19_method_2_code 3 = .ok (.iload_n 2, 1) := by decide +kernel
theorem d3_4 : decode prog_19_method_2_code 4 = .ok (.if_icmp .ge 72, 3) := by decide +kernel
theorem d3_7 : decode prog_19_method_2_code 7 = .ok (.aload_n 0, 1) := by decide +kernel
theorem d3_8 : decode prog_19_method_2_code 8 = .ok (.iload_n 3, 1) := by decide +kernel
theorem d3_9 : decode prog_19_method_2_code 9 = .ok (.baload, 1) := by decide +kernel
theorem d3_10 : decode prog_19_method_2_code 10 = .ok (.bipush 10, 2) := by decide +kernel
theorem d3_12 : decode prog_19_method_2_code 12 = .ok (.if_icmp .eq 6, 3) := by decide +kernel
theorem d3_15 : decode prog_19_method_2_code 15 = .ok (.goto 55, 3) := by decide +kernel
theorem d3_18 : decode prog_19_method_2_code 18 = .ok (.iload_n 3, 1) := by decide +kernel
theorem d3_19 : decode prog_19_method_2_code 19 = .ok (.iconst 1, 1) := by decide +kernel
theorem d3_20 : decode prog_19_method_2_code 20 = .ok (.iadd, 1) := by decide +kernel
theorem d3_21 : decode prog_19_method_2_code 21 = .ok (.iload_n 2, 1) := by decide +kernel
theorem d3_22 : decode prog_19_method_2_code 22 = .ok (.if_icmp .ge 17, 3) := by decide +kernel
theorem d3_25 : decode prog_19_method_2_code 25 = .ok (.aload_n 0, 1) := by decide +kernel
theorem d3_26 : decode prog_19_method_2_code 26 = .ok (.iload_n 3, 1) := by decide +kernel
theorem d3_27 : decode prog_19_method_2_code 27 = .ok (.iconst 1, 1) := by decide +kernel
theorem d3_28 : decode prog_19_method_2_code 28 = .ok (.iadd, 1) := by decide +kernel
theorem d3_29 : decode prog_19_method_2_code 29 = .ok (.baload, 1) := by decide +kernel
theorem d3_30 : decode prog_19_method_2_code 30 = .ok (.bipush 10, 2) := by decide +kernel
theorem d3_32 : decode prog_19_method_2_code 32 = .ok (.if_icmp .ne 7, 3) := by decide +kernel
theorem d3_35 : decode prog_19_method_2_code 35 = .ok (.iload_n 3, 1) := by decide +kernel
theorem d3_36 : decode prog_19_method_2_code 36 = .ok (.iconst 2, 1) := by decide +kernel
theorem d3_37 : decode prog_19_method_2_code 37 = .ok (.iadd, 1) := by decide +kernel
theorem d3_38 : decode prog_19_method_2_code 38 = .ok (.ireturn, 1) := by decide +kernel
theorem d3_39 : decode prog_19_method_2_code 39 = .ok (.iload_n 3, 1) := by decide +kernel
theorem d3_40 : decode prog_19_method_2_code 40 = .ok (.iconst 2, 1) := by decide +kernel
theorem d3_41 : decode prog_19_method_2_code 41 = .ok (.iadd, 1) := by decide +kernel
theorem d3_42 : decode prog_19_method_2_code 42 = .ok (.iload_n 2, 1) := by decide +kernel
theorem d3_43 : decode prog_19_method_2_code 43 = .ok (.if_icmp .ge 27, 3) := by decide +kernel
theorem d3_46 : decode prog_19_method_2_code 46 = .ok (.aload_n 0, 1) := by decide +kernel
theorem d3_47 : decode prog_19_method_2_code 47 = .ok (.iload_n 3, 1) := by decide +kernel
theorem d3_48 : decode prog_19_method_2_code 48 = .ok (.iconst 1, 1) := by decide +kernel
theorem d3_49 : decode prog_19_method_2_code 49 = .ok (.iadd, 1) := by decide +kernel
theorem d3_50 : decode prog_19_method_2_code 50 = .ok (.baload, 1) := by decide +kernel
theorem d3_51 : decode prog_19_method_2_code 51 = .ok (.bipush 13, 2) := by decide +kernel
theorem d3_53 : decode prog_19_method_2_code 53 = .ok (.if_icmp .ne 17, 3) := by decide +kernel
theorem d3_56 : decode prog_19_method_2_code 56 = .ok (.aload_n 0, 1) := by decide +kernel
theorem d3_57 : decode prog_19_method_2_code 57 = .ok (.iload_n 3, 1) := by decide +kernel
theorem d3_58 : decode prog_19_method_2_code 58 = .ok (.iconst 2, 1) := by decide +kernel
theorem d3_59 : decode prog_19_method_2_code 59 = .ok (.iadd, 1) := by decide +kernel
theorem d3_60 : decode prog_19_method_2_code 60 = .ok (.baload, 1) := by decide +kernel
theorem d3_61 : decode prog_19_method_2_code 61 = .ok (.bipush 10, 2) := by decide +kernel
theorem d3_63 : decode prog_19_method_2_code 63 = .ok (.if_icmp .ne 7, 3) := by decide +kernel
theorem d3_66 : decode prog_19_method_2_code 66 = .ok (.iload_n 3, 1) := by decide +kernel
theorem d3_67 : decode prog_19_method_2_code 67 = .ok (.iconst 3, 1) := by decide +kernel
theorem d3_68 : decode prog_19_method_2_code 68 = .ok (.iadd, 1) := by decide +kernel
theorem d3_69 : decode prog_19_method_2_code 69 = .ok (.ireturn, 1) := by decide +kernel
theorem d3_70 : decode prog_19_method_2_code 70 = .ok (.iinc 3 1, 3) := by decide +kernel
theorem d3_73 : decode prog_19_method_2_code 73 = .ok (.goto (-71), 3) := by decide +kernel
theorem d3_76 : decode prog_19_method_2_code 76 = .ok (.iconst (-1), 1) := by decide +kernel
theorem d3_77 : decode prog_19_method_2_code 77 = .ok (.ireturn, 1) := by decide +kernel
theorem pn_3 : plainName "com/example/sandpiper/sandpiper/broker/RequestHead" = true := by first | (simp [plainName, overriddenIn]; done) | decide +kernel
theorem ef_3 (m : MethodId) (r0 : Addr) (p1 : Int32) (p2 : Int32) : entryFrame m #[(.ref r0), (.int p1), (.int p2)] 4 = mkF m 0 #[.val (.ref r0), .val (.int p1), .val (.int p2), .unset] [] := by first | (simp [entryFrame, mkF, argsToLocals, Value.category]; done) | rfl
def own_f3_2 (ys : List Int32) (p2 : Int32) : Nat → Int32 → Int32
  | 0, _ => 0
  | fuel + 1, v2_l3 =>
  if v2_l3 < p2 then
    if (ys.getD v2_l3.toNatClampNeg 0) = (10 : Int32) then
      if (v2_l3 + (1 : Int32)) < p2 then
        if (ys.getD (v2_l3 + (1 : Int32)).toNatClampNeg 0) = (10 : Int32) then
          (v2_l3 + (2 : Int32))
        else
          if (v2_l3 + (2 : Int32)) < p2 then
            if (ys.getD (v2_l3 + (1 : Int32)).toNatClampNeg 0) = (13 : Int32) then
              if (ys.getD (v2_l3 + (2 : Int32)).toNatClampNeg 0) = (10 : Int32) then
                (v2_l3 + (3 : Int32))
              else
                (own_f3_2 ys p2 fuel (v2_l3 + (1 : Int32)))
            else
              (own_f3_2 ys p2 fuel (v2_l3 + (1 : Int32)))
          else
            (own_f3_2 ys p2 fuel (v2_l3 + (1 : Int32)))
      else
        if (v2_l3 + (2 : Int32)) < p2 then
          if (ys.getD (v2_l3 + (1 : Int32)).toNatClampNeg 0) = (13 : Int32) then
            if (ys.getD (v2_l3 + (2 : Int32)).toNatClampNeg 0) = (10 : Int32) then
              (v2_l3 + (3 : Int32))
            else
              (own_f3_2 ys p2 fuel (v2_l3 + (1 : Int32)))
          else
            (own_f3_2 ys p2 fuel (v2_l3 + (1 : Int32)))
        else
          (own_f3_2 ys p2 fuel (v2_l3 + (1 : Int32)))
    else
      (own_f3_2 ys p2 fuel (v2_l3 + (1 : Int32)))
  else
    (-1 : Int32)
def own_f3 (ys : List Int32) (p1 : Int32) (p2 : Int32) : Int32 :=
  (own_f3_2 ys p2 8 p1)
abbrev own_room3 : Room := { frames := 0, cells := 0, slots := 0, locals := 0 }
set_option maxRecDepth 65536 in
set_option maxHeartbeats 40000000 in
theorem rm3 (l : Launch) (Z : State) (a0 : Array Value) (hw : ∀ d ∈ tables_1, d.before a0 Z = true) (ws : List Jvm.Cond) (r0 : Addr) (p1 : Int32) (p2 : Int32) (ys : List Int32) (k_r0 : ClassId) (h0 : Heap) (n0 : Nat) (Z0 : n0 ≤ h0.size) (V_r0 : own_A Z h0 r0 k_r0 .byte (6 : Int32) ys) (hp : own_ft p1 p2) :
    MetFree l (⟨"com/example/sandpiper/sandpiper/broker/RequestHead", "end", "([BII)I"⟩ : MethodName) (head1 (Jvm.Cond.code (⟨"com/example/sandpiper/sandpiper/broker/RequestHead", "end", "([BII)I"⟩ : MethodName) prog_19_method_2_code 4 (some .int) :: ws) own_room3) (fun a U => a = #[(.ref r0), (.int p1), (.int p2)] ∧ Z.Warmed39 U.vm ∧ U.heap = h0) (fun _ _ _ _ _ => True) (fun _ U o U' => ∃ v L, o = .returned v ∧ own_Qp (some (.int (own_f3 ys p1 p2))) h0 v U'.heap L ∧ FrameEnd U o U' L own_room3.cells own_room3.slots) := by
  refine MetFree.of_bodySF (plainFor_of_name pn_3) hisR ?_
  intro p e s m args below meth c s₁ Bd hml0 hP hK
  obtain ⟨rfl, hZ, hh⟩ := hP
  have hx := Bd.exec
  have hby := Bd.bytes
  have hml : c.maxLocals = 4 := hml0
  have hown : s.vm.findClass "com/example/sandpiper/sandpiper/broker/RequestHead" = some m.cls := findClass_of_methodNamed Bd.named
  have hnm := (name_of_methodNamed Bd.named Bd.method).1
  have X0 : Stand p l e own_room3 s m #[(.ref r0), (.int p1), (.int p2)] below meth c s₁ [] 0 0 := Stand.of_body Bd
  have e0 : s₁.heap = h0 := by rw [← hh, Bd.state]; rfl
  have N0 := Fr.nil n0
  refine own_enter (ef_3 m r0 p1 p2) ?_
  show own_Goes p.tables e below (s₁.setTop (mkF m 0 #[.val (.ref r0), .val (.int p1), .val (.int p2), .unset] [])) (own_P s (own_Qp (some (.int (own_f3 ys p1 p2))) h0) own_room3.cells own_room3.slots)
  have J2 : ∀ (fuel : Nat) (T_2 : State) (X_2 : Stand p l e own_room3 s m #[(.ref r0), (.int p1), (.int p2)] below meth c T_2 [] 0 0) (e_2 : T_2.heap = h0) (v2_l3 : Int32) (hH : own_H p2 v2_l3 fuel), own_Goes p.tables e below (T_2.setTop (mkF m 2 #[.val (.ref r0), .val (.int p1), .val (.int p2), .val (.int v2_l3)] [])) (own_P s (own_Qp (some (.int (own_f3_2 ys p2 fuel v2_l3))) h0) own_room3.cells own_room3.slots) := by
    intro fuel
    induction fuel with
    | zero => intro T_2 X_2 e_2 v2_l3 hH; exact absurd hH (own_HZ)
    | succ fuel ih =>
      intro T_2 X_2 e_2 v2_l3 hH
      refine own_step (fun _ => XS.iloadN X_2.here hx rfl (hb hby d3_2) rfl) ?_
      show own_Goes p.tables e below (T_2.setTop (mkF m 3 #[.val (.ref r0), .val (.int p1), .val (.int p2), .val (.int v2_l3)] [(.int v2_l3)])) _
      refine own_step (fun _ => XS.iloadN X_2.here hx rfl (hb hby d3_3) rfl) ?_
      show own_Goes p.tables e below (T_2.setTop (mkF m 4 #[.val (.ref r0), .val (.int p1), .val (.int p2), .val (.int v2_l3)] [(.int p2), (.int v2_l3)])) _
      by_cases hc4 : v2_l3 < p2
      · refine own_step (fun _ => XS.icmpNo X_2.here hx rfl (hb hby d3_4) rfl (Jvm.Free.XT.ii_ge_f hc4)) ?_
        show own_Goes p.tables e below (T_2.setTop (mkF m 7 #[.val (.ref r0), .val (.int p1), .val (.int p2), .val (.int v2_l3)] [])) _
        refine own_step (fun _ => XS.aloadN X_2.here hx rfl (hb hby d3_7) rfl rfl) ?_
        show own_Goes p.tables e below (T_2.setTop (mkF m 8 #[.val (.ref r0), .val (.int p1), .val (.int p2), .val (.int v2_l3)] [(.ref r0)])) _
        refine own_step (fun _ => XS.iloadN X_2.here hx rfl (hb hby d3_8) rfl) ?_
        show own_Goes p.tables e below (T_2.setTop (mkF m 9 #[.val (.ref r0), .val (.int p1), .val (.int p2), .val (.int v2_l3)] [(.int v2_l3), (.ref r0)])) _
        refine own_step (own_ldB X_2 hx hZ e_2 V_r0 (j := v2_l3) (own_ix hH hc4) (g := (mkF m 9 #[.val (.ref r0), .val (.int p1), .val (.int p2), .val (.int v2_l3)] [(.int v2_l3), (.ref r0)])) rfl rfl (hb hby d3_9)) ?_
        show own_Goes p.tables e below (T_2.setTop (mkF m 10 #[.val (.ref r0), .val (.int p1), .val (.int p2), .val (.int v2_l3)] [(.int (ys.getD v2_l3.toNatClampNeg 0))])) _
        refine own_step (fun _ => XS.bipush X_2.here hx rfl (hb hby d3_10)) ?_
        show own_Goes p.tables e below (T_2.setTop (mkF m 12 #[.val (.ref r0), .val (.int p1), .val (.int p2), .val (.int v2_l3)] [(.int (10 : Int32)), (.int (ys.getD v2_l3.toNatClampNeg 0))])) _
        by_cases hc12 : (ys.getD v2_l3.toNatClampNeg 0) = (10 : Int32)
        · refine own_step (fun _ => XS.icmpYes X_2.here hx rfl (pc0 := 12) (pc' := 18) rfl (hb hby d3_12) rfl (Jvm.Free.XT.ii_eq_t hc12) (by decide) (by decide)) ?_
          show own_Goes p.tables e below (T_2.setTop (mkF m 18 #[.val (.ref r0), .val (.int p1), .val (.int p2), .val (.int v2_l3)] [])) _
          refine own_step (fun _ => XS.iloadN X_2.here hx rfl (hb hby d3_18) rfl) ?_
          show own_Goes p.tables e below (T_2.setTop (mkF m 19 #[.val (.ref r0), .val (.int p1), .val (.int p2), .val (.int v2_l3)] [(.int v2_l3)])) _
          refine own_step (fun _ => XS.iconst X_2.here hx rfl (hb hby d3_19)) ?_
          show own_Goes p.tables e below (T_2.setTop (mkF m 20 #[.val (.ref r0), .val (.int p1), .val (.int p2), .val (.int v2_l3)] [(.int (1 : Int32)), (.int v2_l3)])) _
          refine own_step (fun _ => XS.iadd X_2.here hx rfl (hb hby d3_20) rfl) ?_
          show own_Goes p.tables e below (T_2.setTop (mkF m 21 #[.val (.ref r0), .val (.int p1), .val (.int p2), .val (.int v2_l3)] [(.int (v2_l3 + (1 : Int32)))])) _
          refine own_step (fun _ => XS.iloadN X_2.here hx rfl (hb hby d3_21) rfl) ?_
          show own_Goes p.tables e below (T_2.setTop (mkF m 22 #[.val (.ref r0), .val (.int p1), .val (.int p2), .val (.int v2_l3)] [(.int p2), (.int (v2_l3 + (1 : Int32)))])) _
          by_cases hc22 : (v2_l3 + (1 : Int32)) < p2
          · refine own_step (fun _ => XS.icmpNo X_2.here hx rfl (hb hby d3_22) rfl (Jvm.Free.XT.ii_ge_f hc22)) ?_
            show own_Goes p.tables e below (T_2.setTop (mkF m 25 #[.val (.ref r0), .val (.int p1), .val (.int p2), .val (.int v2_l3)] [])) _
            refine own_step (fun _ => XS.aloadN X_2.here hx rfl (hb hby d3_25) rfl rfl) ?_
            show own_Goes p.tables e below (T_2.setTop (mkF m 26 #[.val (.ref r0), .val (.int p1), .val (.int p2), .val (.int v2_l3)] [(.ref r0)])) _
            refine own_step (fun _ => XS.iloadN X_2.here hx rfl (hb hby d3_26) rfl) ?_
            show own_Goes p.tables e below (T_2.setTop (mkF m 27 #[.val (.ref r0), .val (.int p1), .val (.int p2), .val (.int v2_l3)] [(.int v2_l3), (.ref r0)])) _
            refine own_step (fun _ => XS.iconst X_2.here hx rfl (hb hby d3_27)) ?_
            show own_Goes p.tables e below (T_2.setTop (mkF m 28 #[.val (.ref r0), .val (.int p1), .val (.int p2), .val (.int v2_l3)] [(.int (1 : Int32)), (.int v2_l3), (.ref r0)])) _
            refine own_step (fun _ => XS.iadd X_2.here hx rfl (hb hby d3_28) rfl) ?_
            show own_Goes p.tables e below (T_2.setTop (mkF m 29 #[.val (.ref r0), .val (.int p1), .val (.int p2), .val (.int v2_l3)] [(.int (v2_l3 + (1 : Int32))), (.ref r0)])) _
            refine own_step (own_ldB X_2 hx hZ e_2 V_r0 (j := (v2_l3 + (1 : Int32))) (own_ixk hH (by decide) (by decide) hc22) (g := (mkF m 29 #[.val (.ref r0), .val (.int p1), .val (.int p2), .val (.int v2_l3)] [(.int (v2_l3 + (1 : Int32))), (.ref r0)])) rfl rfl (hb hby d3_29)) ?_
            show own_Goes p.tables e below (T_2.setTop (mkF m 30 #[.val (.ref r0), .val (.int p1), .val (.int p2), .val (.int v2_l3)] [(.int (ys.getD (v2_l3 + (1 : Int32)).toNatClampNeg 0))])) _
            refine own_step (fun _ => XS.bipush X_2.here hx rfl (hb hby d3_30)) ?_
            show own_Goes p.tables e below (T_2.setTop (mkF m 32 #[.val (.ref r0), .val (.int p1), .val (.int p2), .val (.int v2_l3)] [(.int (10 : Int32)), (.int (ys.getD (v2_l3 + (1 : Int32)).toNatClampNeg 0))])) _
            by_cases hc32 : (ys.getD (v2_l3 + (1 : Int32)).toNatClampNeg 0) = (10 : Int32)
            · refine own_step (fun _ => XS.icmpNo X_2.here hx rfl (hb hby d3_32) rfl (Jvm.Free.XT.ii_ne_f hc32)) ?_
              show own_Goes p.tables e below (T_2.setTop (mkF m 35 #[.val (.ref r0), .val (.int p1), .val (.int p2), .val (.int v2_l3)] [])) _
              refine own_step (fun _ => XS.iloadN X_2.here hx rfl (hb hby d3_35) rfl) ?_
              show own_Goes p.tables e below (T_2.setTop (mkF m 36 #[.val (.ref r0), .val (.int p1), .val (.int p2), .val (.int v2_l3)] [(.int v2_l3)])) _
              refine own_step (fun _ => XS.iconst X_2.here hx rfl (hb hby d3_36)) ?_
              show own_Goes p.tables e below (T_2.setTop (mkF m 37 #[.val (.ref r0), .val (.int p1), .val (.int p2), .val (.int v2_l3)] [(.int (2 : Int32)), (.int v2_l3)])) _
              refine own_step (fun _ => XS.iadd X_2.here hx rfl (hb hby d3_37) rfl) ?_
              show own_Goes p.tables e below (T_2.setTop (mkF m 38 #[.val (.ref r0), .val (.int p1), .val (.int p2), .val (.int v2_l3)] [(.int (v2_l3 + (2 : Int32)))])) _
              have hv : (own_f3_2 ys p2 (fuel + 1) v2_l3) = (v2_l3 + (2 : Int32)) := by exact ((((if_pos hc4)).trans (if_pos hc12)).trans (if_pos hc22)).trans (if_pos hc32)
              rw [hv]
              exact own_retI X_2 hx Bd.returns (hb hby d3_38) (BodyLoose.notSynchronized Bd) ⟨rfl, rfl, e_2⟩ (by decide) (by decide)
            · refine own_step (fun _ => XS.icmpYes X_2.here hx rfl (pc0 := 32) (pc' := 39) rfl (hb hby d3_32) rfl (Jvm.Free.XT.ii_ne_t hc32) (by decide) (by decide)) ?_
              show own_Goes p.tables e below (T_2.setTop (mkF m 39 #[.val (.ref r0), .val (.int p1), .val (.int p2), .val (.int v2_l3)] [])) _
              refine own_step (fun _ => XS.iloadN X_2.here hx rfl (hb hby d3_39) rfl) ?_
              show own_Goes p.tables e below (T_2.setTop (mkF m 40 #[.val (.ref r0), .val (.int p1), .val (.int p2), .val (.int v2_l3)] [(.int v2_l3)])) _
              refine own_step (fun _ => XS.iconst X_2.here hx rfl (hb hby d3_40)) ?_
              show own_Goes p.tables e below (T_2.setTop (mkF m 41 #[.val (.ref r0), .val (.int p1), .val (.int p2), .val (.int v2_l3)] [(.int (2 : Int32)), (.int v2_l3)])) _
              refine own_step (fun _ => XS.iadd X_2.here hx rfl (hb hby d3_41) rfl) ?_
              show own_Goes p.tables e below (T_2.setTop (mkF m 42 #[.val (.ref r0), .val (.int p1), .val (.int p2), .val (.int v2_l3)] [(.int (v2_l3 + (2 : Int32)))])) _
              refine own_step (fun _ => XS.iloadN X_2.here hx rfl (hb hby d3_42) rfl) ?_
              show own_Goes p.tables e below (T_2.setTop (mkF m 43 #[.val (.ref r0), .val (.int p1), .val (.int p2), .val (.int v2_l3)] [(.int p2), (.int (v2_l3 + (2 : Int32)))])) _
              by_cases hc43 : (v2_l3 + (2 : Int32)) < p2
              · refine own_step (fun _ => XS.icmpNo X_2.here hx rfl (hb hby d3_43) rfl (Jvm.Free.XT.ii_ge_f hc43)) ?_
                show own_Goes p.tables e below (T_2.setTop (mkF m 46 #[.val (.ref r0), .val (.int p1), .val (.int p2), .val (.int v2_l3)] [])) _
                refine own_step (fun _ => XS.aloadN X_2.here hx rfl (hb hby d3_46) rfl rfl) ?_
                show own_Goes p.tables e below (T_2.setTop (mkF m 47 #[.val (.ref r0), .val (.int p1), .val (.int p2), .val (.int v2_l3)] [(.ref r0)])) _
                refine own_step (fun _ => XS.iloadN X_2.here hx rfl (hb hby d3_47) rfl) ?_
                show own_Goes p.tables e below (T_2.setTop (mkF m 48 #[.val (.ref r0), .val (.int p1), .val (.int p2), .val (.int v2_l3)] [(.int v2_l3), (.ref r0)])) _
                refine own_step (fun _ => XS.iconst X_2.here hx rfl (hb hby d3_48)) ?_
                show own_Goes p.tables e below (T_2.setTop (mkF m 49 #[.val (.ref r0), .val (.int p1), .val (.int p2), .val (.int v2_l3)] [(.int (1 : Int32)), (.int v2_l3), (.ref r0)])) _
                refine own_step (fun _ => XS.iadd X_2.here hx rfl (hb hby d3_49) rfl) ?_
                show own_Goes p.tables e below (T_2.setTop (mkF m 50 #[.val (.ref r0), .val (.int p1), .val (.int p2), .val (.int v2_l3)] [(.int (v2_l3 + (1 : Int32))), (.ref r0)])) _
                refine own_step (own_ldB X_2 hx hZ e_2 V_r0 (j := (v2_l3 + (1 : Int32))) (own_ixk hH (k := 2) (by decide) (by decide) hc43) (g := (mkF m 50 #[.val (.ref r0), .val (.int p1), .val (.int p2), .val (.int v2_l3)] [(.int (v2_l3 + (1 : Int32))), (.ref r0)])) rfl rfl (hb hby d3_50)) ?_
                show own_Goes p.tables e below (T_2.setTop (mkF m 51 #[.val (.ref r0), .val (.int p1), .val (.int p2), .val (.int v2_l3)] [(.int (ys.getD (v2_l3 + (1 : Int32)).toNatClampNeg 0))])) _
                refine own_step (fun _ => XS.bipush X_2.here hx rfl (hb hby d3_51)) ?_
                show own_Goes p.tables e below (T_2.setTop (mkF m 53 #[.val (.ref r0), .val (.int p1), .val (.int p2), .val (.int v2_l3)] [(.int (13 : Int32)), (.int (ys.getD (v2_l3 + (1 : Int32)).toNatClampNeg 0))])) _
                by_cases hc53 : (ys.getD (v2_l3 + (1 : Int32)).toNatClampNeg 0) = (13 : Int32)
                · refine own_step (fun _ => XS.icmpNo X_2.here hx rfl (hb hby d3_53) rfl (Jvm.Free.XT.ii_ne_f hc53)) ?_
                  show own_Goes p.tables e below (T_2.setTop (mkF m 56 #[.val (.ref r0), .val (.int p1), .val (.int p2), .val (.int v2_l3)] [])) _
                  refine own_step (fun _ => XS.aloadN X_2.here hx rfl (hb hby d3_56) rfl rfl) ?_
                  show own_Goes p.tables e below (T_2.setTop (mkF m 57 #[.val (.ref r0), .val (.int p1), .val (.int p2), .val (.int v2_l3)] [(.ref r0)])) _
                  refine own_step (fun _ => XS.iloadN X_2.here hx rfl (hb hby d3_57) rfl) ?_
                  show own_Goes p.tables e below (T_2.setTop (mkF m 58 #[.val (.ref r0), .val (.int p1), .val (.int p2), .val (.int v2_l3)] [(.int v2_l3), (.ref r0)])) _
                  refine own_step (fun _ => XS.iconst X_2.here hx rfl (hb hby d3_58)) ?_
                  show own_Goes p.tables e below (T_2.setTop (mkF m 59 #[.val (.ref r0), .val (.int p1), .val (.int p2), .val (.int v2_l3)] [(.int (2 : Int32)), (.int v2_l3), (.ref r0)])) _
                  refine own_step (fun _ => XS.iadd X_2.here hx rfl (hb hby d3_59) rfl) ?_
                  show own_Goes p.tables e below (T_2.setTop (mkF m 60 #[.val (.ref r0), .val (.int p1), .val (.int p2), .val (.int v2_l3)] [(.int (v2_l3 + (2 : Int32))), (.ref r0)])) _
                  refine own_step (own_ldB X_2 hx hZ e_2 V_r0 (j := (v2_l3 + (2 : Int32))) (own_ixk hH (k := 2) (by decide) (by decide) hc43) (g := (mkF m 60 #[.val (.ref r0), .val (.int p1), .val (.int p2), .val (.int v2_l3)] [(.int (v2_l3 + (2 : Int32))), (.ref r0)])) rfl rfl (hb hby d3_60)) ?_
                  show own_Goes p.tables e below (T_2.setTop (mkF m 61 #[.val (.ref r0), .val (.int p1), .val (.int p2), .val (.int v2_l3)] [(.int (ys.getD (v2_l3 + (2 : Int32)).toNatClampNeg 0))])) _
                  refine own_step (fun _ => XS.bipush X_2.here hx rfl (hb hby d3_61)) ?_
                  show own_Goes p.tables e below (T_2.setTop (mkF m 63 #[.val (.ref r0), .val (.int p1), .val (.int p2), .val (.int v2_l3)] [(.int (10 : Int32)), (.int (ys.getD (v2_l3 + (2 : Int32)).toNatClampNeg 0))])) _
                  by_cases hc63 : (ys.getD (v2_l3 + (2 : Int32)).toNatClampNeg 0) = (10 : Int32)
                  · refine own_step (fun _ => XS.icmpNo X_2.here hx rfl (hb hby d3_63) rfl (Jvm.Free.XT.ii_ne_f hc63)) ?_
                    show own_Goes p.tables e below (T_2.setTop (mkF m 66 #[.val (.ref r0), .val (.int p1), .val (.int p2), .val (.int v2_l3)] [])) _
                    refine own_step (fun _ => XS.iloadN X_2.here hx rfl (hb hby d3_66) rfl) ?_
                    show own_Goes p.tables e below (T_2.setTop (mkF m 67 #[.val (.ref r0), .val (.int p1), .val (.int p2), .val (.int v2_l3)] [(.int v2_l3)])) _
                    refine own_step (fun _ => XS.iconst X_2.here hx rfl (hb hby d3_67)) ?_
                    show own_Goes p.tables e below (T_2.setTop (mkF m 68 #[.val (.ref r0), .val (.int p1), .val (.int p2), .val (.int v2_l3)] [(.int (3 : Int32)), (.int v2_l3)])) _
                    refine own_step (fun _ => XS.iadd X_2.here hx rfl (hb hby d3_68) rfl) ?_
                    show own_Goes p.tables e below (T_2.setTop (mkF m 69 #[.val (.ref r0), .val (.int p1), .val (.int p2), .val (.int v2_l3)] [(.int (v2_l3 + (3 : Int32)))])) _
                    have hv : (own_f3_2 ys p2 (fuel + 1) v2_l3) = (v2_l3 + (3 : Int32)) := by exact (((((((if_pos hc4)).trans (if_pos hc12)).trans (if_pos hc22)).trans (if_neg hc32)).trans (if_pos hc43)).trans (if_pos hc53)).trans (if_pos hc63)
                    rw [hv]
                    exact own_retI X_2 hx Bd.returns (hb hby d3_69) (BodyLoose.notSynchronized Bd) ⟨rfl, rfl, e_2⟩ (by decide) (by decide)
                  · refine own_step (fun _ => XS.icmpYes X_2.here hx rfl (pc0 := 63) (pc' := 70) rfl (hb hby d3_63) rfl (Jvm.Free.XT.ii_ne_t hc63) (by decide) (by decide)) ?_
                    show own_Goes p.tables e below (T_2.setTop (mkF m 70 #[.val (.ref r0), .val (.int p1), .val (.int p2), .val (.int v2_l3)] [])) _
                    refine own_step (fun _ => XS.iinc X_2.here hx rfl (hb hby d3_70) rfl (l' := #[.val (.ref r0), .val (.int p1), .val (.int p2), .val (.int (v2_l3 + (1 : Int32)))]) rfl) ?_
                    show own_Goes p.tables e below (T_2.setTop (mkF m 73 #[.val (.ref r0), .val (.int p1), .val (.int p2), .val (.int (v2_l3 + (1 : Int32)))] [])) _
                    refine own_step (fun _ => XS.goto X_2.here hx rfl (pc0 := 73) (pc' := 2) rfl (hb hby d3_73) (by decide) (by decide)) ?_
                    show own_Goes p.tables e below (T_2.setTop (mkF m 2 #[.val (.ref r0), .val (.int p1), .val (.int p2), .val (.int (v2_l3 + (1 : Int32)))] [])) _
                    have hv : (own_f3_2 ys p2 (fuel + 1) v2_l3) = (own_f3_2 ys p2 fuel (v2_l3 + (1 : Int32))) := by exact (((((((if_pos hc4)).trans (if_pos hc12)).trans (if_pos hc22)).trans (if_neg hc32)).trans (if_pos hc43)).trans (if_pos hc53)).trans (if_neg hc63)
                    rw [hv]
                    exact ih T_2 X_2 e_2 (v2_l3 + (1 : Int32)) (own_HS hc4 hH)
                · refine own_step (fun _ => XS.icmpYes X_2.here hx rfl (pc0 := 53) (pc' := 70) rfl (hb hby d3_53) rfl (Jvm.Free.XT.ii_ne_t hc53) (by decide) (by decide)) ?_
                  show own_Goes p.tables e below (T_2.setTop (mkF m 70 #[.val (.ref r0), .val (.int p1), .val (.int p2), .val (.int v2_l3)] [])) _
                  refine own_step (fun _ => XS.iinc X_2.here hx rfl (hb hby d3_70) rfl (l' := #[.val (.ref r0), .val (.int p1), .val (.int p2), .val (.int (v2_l3 + (1 : Int32)))]) rfl) ?_
                  show own_Goes p.tables e below (T_2.setTop (mkF m 73 #[.val (.ref r0), .val (.int p1), .val (.int p2), .val (.int (v2_l3 + (1 : Int32)))] [])) _
                  refine own_step (fun _ => XS.goto X_2.here hx rfl (pc0 := 73) (pc' := 2) rfl (hb hby d3_73) (by decide) (by decide)) ?_
                  show own_Goes p.tables e below (T_2.setTop (mkF m 2 #[.val (.ref r0), .val (.int p1), .val (.int p2), .val (.int (v2_l3 + (1 : Int32)))] [])) _
                  have hv : (own_f3_2 ys p2 (fuel + 1) v2_l3) = (own_f3_2 ys p2 fuel (v2_l3 + (1 : Int32))) := by exact ((((((if_pos hc4)).trans (if_pos hc12)).trans (if_pos hc22)).trans (if_neg hc32)).trans (if_pos hc43)).trans (if_neg hc53)
                  rw [hv]
                  exact ih T_2 X_2 e_2 (v2_l3 + (1 : Int32)) (own_HS hc4 hH)
              · refine own_step (fun _ => XS.icmpYes X_2.here hx rfl (pc0 := 43) (pc' := 70) rfl (hb hby d3_43) rfl (Jvm.Free.XT.ii_ge_t hc43) (by decide) (by decide)) ?_
                show own_Goes p.tables e below (T_2.setTop (mkF m 70 #[.val (.ref r0), .val (.int p1), .val (.int p2), .val (.int v2_l3)] [])) _
                refine own_step (fun _ => XS.iinc X_2.here hx rfl (hb hby d3_70) rfl (l' := #[.val (.ref r0), .val (.int p1), .val (.int p2), .val (.int (v2_l3 + (1 : Int32)))]) rfl) ?_
                show own_Goes p.tables e below (T_2.setTop (mkF m 73 #[.val (.ref r0), .val (.int p1), .val (.int p2), .val (.int (v2_l3 + (1 : Int32)))] [])) _
                refine own_step (fun _ => XS.goto X_2.here hx rfl (pc0 := 73) (pc' := 2) rfl (hb hby d3_73) (by decide) (by decide)) ?_
                show own_Goes p.tables e below (T_2.setTop (mkF m 2 #[.val (.ref r0), .val (.int p1), .val (.int p2), .val (.int (v2_l3 + (1 : Int32)))] [])) _
                have hv : (own_f3_2 ys p2 (fuel + 1) v2_l3) = (own_f3_2 ys p2 fuel (v2_l3 + (1 : Int32))) := by exact (((((if_pos hc4)).trans (if_pos hc12)).trans (if_pos hc22)).trans (if_neg hc32)).trans (if_neg hc43)
                rw [hv]
                exact ih T_2 X_2 e_2 (v2_l3 + (1 : Int32)) (own_HS hc4 hH)
          · refine own_step (fun _ => XS.icmpYes X_2.here hx rfl (pc0 := 22) (pc' := 39) rfl (hb hby d3_22) rfl (Jvm.Free.XT.ii_ge_t hc22) (by decide) (by decide)) ?_
            show own_Goes p.tables e below (T_2.setTop (mkF m 39 #[.val (.ref r0), .val (.int p1), .val (.int p2), .val (.int v2_l3)] [])) _
            refine own_step (fun _ => XS.iloadN X_2.here hx rfl (hb hby d3_39) rfl) ?_
            show own_Goes p.tables e below (T_2.setTop (mkF m 40 #[.val (.ref r0), .val (.int p1), .val (.int p2), .val (.int v2_l3)] [(.int v2_l3)])) _
            refine own_step (fun _ => XS.iconst X_2.here hx rfl (hb hby d3_40)) ?_
            show own_Goes p.tables e below (T_2.setTop (mkF m 41 #[.val (.ref r0), .val (.int p1), .val (.int p2), .val (.int v2_l3)] [(.int (2 : Int32)), (.int v2_l3)])) _
            refine own_step (fun _ => XS.iadd X_2.here hx rfl (hb hby d3_41) rfl) ?_
            show own_Goes p.tables e below (T_2.setTop (mkF m 42 #[.val (.ref r0), .val (.int p1), .val (.int p2), .val (.int v2_l3)] [(.int (v2_l3 + (2 : Int32)))])) _
            refine own_step (fun _ => XS.iloadN X_2.here hx rfl (hb hby d3_42) rfl) ?_
            show own_Goes p.tables e below (T_2.setTop (mkF m 43 #[.val (.ref r0), .val (.int p1), .val (.int p2), .val (.int v2_l3)] [(.int p2), (.int (v2_l3 + (2 : Int32)))])) _
            by_cases hc43 : (v2_l3 + (2 : Int32)) < p2
            · refine own_step (fun _ => XS.icmpNo X_2.here hx rfl (hb hby d3_43) rfl (Jvm.Free.XT.ii_ge_f hc43)) ?_
              show own_Goes p.tables e below (T_2.setTop (mkF m 46 #[.val (.ref r0), .val (.int p1), .val (.int p2), .val (.int v2_l3)] [])) _
              refine own_step (fun _ => XS.aloadN X_2.here hx rfl (hb hby d3_46) rfl rfl) ?_
              show own_Goes p.tables e below (T_2.setTop (mkF m 47 #[.val (.ref r0), .val (.int p1), .val (.int p2), .val (.int v2_l3)] [(.ref r0)])) _
              refine own_step (fun _ => XS.iloadN X_2.here hx rfl (hb hby d3_47) rfl) ?_
              show own_Goes p.tables e below (T_2.setTop (mkF m 48 #[.val (.ref r0), .val (.int p1), .val (.int p2), .val (.int v2_l3)] [(.int v2_l3), (.ref r0)])) _
              refine own_step (fun _ => XS.iconst X_2.here hx rfl (hb hby d3_48)) ?_
              show own_Goes p.tables e below (T_2.setTop (mkF m 49 #[.val (.ref r0), .val (.int p1), .val (.int p2), .val (.int v2_l3)] [(.int (1 : Int32)), (.int v2_l3), (.ref r0)])) _
              refine own_step (fun _ => XS.iadd X_2.here hx rfl (hb hby d3_49) rfl) ?_
              show own_Goes p.tables e below (T_2.setTop (mkF m 50 #[.val (.ref r0), .val (.int p1), .val (.int p2), .val (.int v2_l3)] [(.int (v2_l3 + (1 : Int32))), (.ref r0)])) _
              refine own_step (own_ldB X_2 hx hZ e_2 V_r0 (j := (v2_l3 + (1 : Int32))) (own_ixk hH (k := 2) (by decide) (by decide) hc43) (g := (mkF m 50 #[.val (.ref r0), .val (.int p1), .val (.int p2), .val (.int v2_l3)] [(.int (v2_l3 + (1 : Int32))), (.ref r0)])) rfl rfl (hb hby d3_50)) ?_
              show own_Goes p.tables e below (T_2.setTop (mkF m 51 #[.val (.ref r0), .val (.int p1), .val (.int p2), .val (.int v2_l3)] [(.int (ys.getD (v2_l3 + (1 : Int32)).toNatClampNeg 0))])) _
              refine own_step (fun _ => XS.bipush X_2.here hx rfl (hb hby d3_51)) ?_
              show own_Goes p.tables e below (T_2.setTop (mkF m 53 #[.val (.ref r0), .val (.int p1), .val (.int p2), .val (.int v2_l3)] [(.int (13 : Int32)), (.int (ys.getD (v2_l3 + (1 : Int32)).toNatClampNeg 0))])) _
              by_cases hc53 : (ys.getD (v2_l3 + (1 : Int32)).toNatClampNeg 0) = (13 : Int32)
              · refine own_step (fun _ => XS.icmpNo X_2.here hx rfl (hb hby d3_53) rfl (Jvm.Free.XT.ii_ne_f hc53)) ?_
                show own_Goes p.tables e below (T_2.setTop (mkF m 56 #[.val (.ref r0), .val (.int p1), .val (.int p2), .val (.int v2_l3)] [])) _
                refine own_step (fun _ => XS.aloadN X_2.here hx rfl (hb hby d3_56) rfl rfl) ?_
                show own_Goes p.tables e below (T_2.setTop (mkF m 57 #[.val (.ref r0), .val (.int p1), .val (.int p2), .val (.int v2_l3)] [(.ref r0)])) _
                refine own_step (fun _ => XS.iloadN X_2.here hx rfl (hb hby d3_57) rfl) ?_
                show own_Goes p.tables e below (T_2.setTop (mkF m 58 #[.val (.ref r0), .val (.int p1), .val (.int p2), .val (.int v2_l3)] [(.int v2_l3), (.ref r0)])) _
                refine own_step (fun _ => XS.iconst X_2.here hx rfl (hb hby d3_58)) ?_
                show own_Goes p.tables e below (T_2.setTop (mkF m 59 #[.val (.ref r0), .val (.int p1), .val (.int p2), .val (.int v2_l3)] [(.int (2 : Int32)), (.int v2_l3), (.ref r0)])) _
                refine own_step (fun _ => XS.iadd X_2.here hx rfl (hb hby d3_59) rfl) ?_
                show own_Goes p.tables e below (T_2.setTop (mkF m 60 #[.val (.ref r0), .val (.int p1), .val (.int p2), .val (.int v2_l3)] [(.int (v2_l3 + (2 : Int32))), (.ref r0)])) _
                refine own_step (own_ldB X_2 hx hZ e_2 V_r0 (j := (v2_l3 + (2 : Int32))) (own_ixk hH (k := 2) (by decide) (by decide) hc43) (g := (mkF m 60 #[.val (.ref r0), .val (.int p1), .val (.int p2), .val (.int v2_l3)] [(.int (v2_l3 + (2 : Int32))), (.ref r0)])) rfl rfl (hb hby d3_60)) ?_
                show own_Goes p.tables e below (T_2.setTop (mkF m 61 #[.val (.ref r0), .val (.int p1), .val (.int p2), .val (.int v2_l3)] [(.int (ys.getD (v2_l3 + (2 : Int32)).toNatClampNeg 0))])) _
                refine own_step (fun _ => XS.bipush X_2.here hx rfl (hb hby d3_61)) ?_
                show own_Goes p.tables e below (T_2.setTop (mkF m 63 #[.val (.ref r0), .val (.int p1), .val (.int p2), .val (.int v2_l3)] [(.int (10 : Int32)), (.int (ys.getD (v2_l3 + (2 : Int32)).toNatClampNeg 0))])) _
                by_cases hc63 : (ys.getD (v2_l3 + (2 : Int32)).toNatClampNeg 0) = (10 : Int32)
                · refine own_step (fun _ => XS.icmpNo X_2.here hx rfl (hb hby d3_63) rfl (Jvm.Free.XT.ii_ne_f hc63)) ?_
                  show own_Goes p.tables e below (T_2.setTop (mkF m 66 #[.val (.ref r0), .val (.int p1), .val (.int p2), .val (.int v2_l3)] [])) _
                  refine own_step (fun _ => XS.iloadN X_2.here hx rfl (hb hby d3_66) rfl) ?_
                  show own_Goes p.tables e below (T_2.setTop (mkF m 67 #[.val (.ref r0), .val (.int p1), .val (.int p2), .val (.int v2_l3)] [(.int v2_l3)])) _
                  refine own_step (fun _ => XS.iconst X_2.here hx rfl (hb hby d3_67)) ?_
                  show own_Goes p.tables e below (T_2.setTop (mkF m 68 #[.val (.ref r0), .val (.int p1), .val (.int p2), .val (.int v2_l3)] [(.int (3 : Int32)), (.int v2_l3)])) _
                  refine own_step (fun _ => XS.iadd X_2.here hx rfl (hb hby d3_68) rfl) ?_
                  show own_Goes p.tables e below (T_2.setTop (mkF m 69 #[.val (.ref r0), .val (.int p1), .val (.int p2), .val (.int v2_l3)] [(.int (v2_l3 + (3 : Int32)))])) _
                  have hv : (own_f3_2 ys p2 (fuel + 1) v2_l3) = (v2_l3 + (3 : Int32)) := by exact ((((((if_pos hc4)).trans (if_pos hc12)).trans (if_neg hc22)).trans (if_pos hc43)).trans (if_pos hc53)).trans (if_pos hc63)
                  rw [hv]
                  exact own_retI X_2 hx Bd.returns (hb hby d3_69) (BodyLoose.notSynchronized Bd) ⟨rfl, rfl, e_2⟩ (by decide) (by decide)
                · refine own_step (fun _ => XS.icmpYes X_2.here hx rfl (pc0 := 63) (pc' := 70) rfl (hb hby d3_63) rfl (Jvm.Free.XT.ii_ne_t hc63) (by decide) (by decide)) ?_
                  show own_Goes p.tables e below (T_2.setTop (mkF m 70 #[.val (.ref r0), .val (.int p1), .val (.int p2), .val (.int v2_l3)] [])) _
                  refine own_step (fun _ => XS.iinc X_2.here hx rfl (hb hby d3_70) rfl (l' := #[.val (.ref r0), .val (.int p1), .val (.int p2), .val (.int (v2_l3 + (1 : Int32)))]) rfl) ?_
                  show own_Goes p.tables e below (T_2.setTop (mkF m 73 #[.val (.ref r0), .val (.int p1), .val (.int p2), .val (.int (v2_l3 + (1 : Int32)))] [])) _
                  refine own_step (fun _ => XS.goto X_2.here hx rfl (pc0 := 73) (pc' := 2) rfl (hb hby d3_73) (by decide) (by decide)) ?_
                  show own_Goes p.tables e below (T_2.setTop (mkF m 2 #[.val (.ref r0), .val (.int p1), .val (.int p2), .val (.int (v2_l3 + (1 : Int32)))] [])) _
                  have hv : (own_f3_2 ys p2 (fuel + 1) v2_l3) = (own_f3_2 ys p2 fuel (v2_l3 + (1 : Int32))) := by exact ((((((if_pos hc4)).trans (if_pos hc12)).trans (if_neg hc22)).trans (if_pos hc43)).trans (if_pos hc53)).trans (if_neg hc63)
                  rw [hv]
                  exact ih T_2 X_2 e_2 (v2_l3 + (1 : Int32)) (own_HS hc4 hH)
              · refine own_step (fun _ => XS.icmpYes X_2.here hx rfl (pc0 := 53) (pc' := 70) rfl (hb hby d3_53) rfl (Jvm.Free.XT.ii_ne_t hc53) (by decide) (by decide)) ?_
                show own_Goes p.tables e below (T_2.setTop (mkF m 70 #[.val (.ref r0), .val (.int p1), .val (.int p2), .val (.int v2_l3)] [])) _
                refine own_step (fun _ => XS.iinc X_2.here hx rfl (hb hby d3_70) rfl (l' := #[.val (.ref r0), .val (.int p1), .val (.int p2), .val (.int (v2_l3 + (1 : Int32)))]) rfl) ?_
                show own_Goes p.tables e below (T_2.setTop (mkF m 73 #[.val (.ref r0), .val (.int p1), .val (.int p2), .val (.int (v2_l3 + (1 : Int32)))] [])) _
                refine own_step (fun _ => XS.goto X_2.here hx rfl (pc0 := 73) (pc' := 2) rfl (hb hby d3_73) (by decide) (by decide)) ?_
                show own_Goes p.tables e below (T_2.setTop (mkF m 2 #[.val (.ref r0), .val (.int p1), .val (.int p2), .val (.int (v2_l3 + (1 : Int32)))] [])) _
                have hv : (own_f3_2 ys p2 (fuel + 1) v2_l3) = (own_f3_2 ys p2 fuel (v2_l3 + (1 : Int32))) := by exact (((((if_pos hc4)).trans (if_pos hc12)).trans (if_neg hc22)).trans (if_pos hc43)).trans (if_neg hc53)
                rw [hv]
                exact ih T_2 X_2 e_2 (v2_l3 + (1 : Int32)) (own_HS hc4 hH)
            · refine own_step (fun _ => XS.icmpYes X_2.here hx rfl (pc0 := 43) (pc' := 70) rfl (hb hby d3_43) rfl (Jvm.Free.XT.ii_ge_t hc43) (by decide) (by decide)) ?_
              show own_Goes p.tables e below (T_2.setTop (mkF m 70 #[.val (.ref r0), .val (.int p1), .val (.int p2), .val (.int v2_l3)] [])) _
              refine own_step (fun _ => XS.iinc X_2.here hx rfl (hb hby d3_70) rfl (l' := #[.val (.ref r0), .val (.int p1), .val (.int p2), .val (.int (v2_l3 + (1 : Int32)))]) rfl) ?_
              show own_Goes p.tables e below (T_2.setTop (mkF m 73 #[.val (.ref r0), .val (.int p1), .val (.int p2), .val (.int (v2_l3 + (1 : Int32)))] [])) _
              refine own_step (fun _ => XS.goto X_2.here hx rfl (pc0 := 73) (pc' := 2) rfl (hb hby d3_73) (by decide) (by decide)) ?_
              show own_Goes p.tables e below (T_2.setTop (mkF m 2 #[.val (.ref r0), .val (.int p1), .val (.int p2), .val (.int (v2_l3 + (1 : Int32)))] [])) _
              have hv : (own_f3_2 ys p2 (fuel + 1) v2_l3) = (own_f3_2 ys p2 fuel (v2_l3 + (1 : Int32))) := by exact ((((if_pos hc4)).trans (if_pos hc12)).trans (if_neg hc22)).trans (if_neg hc43)
              rw [hv]
              exact ih T_2 X_2 e_2 (v2_l3 + (1 : Int32)) (own_HS hc4 hH)
        · refine own_step (fun _ => XS.icmpNo X_2.here hx rfl (hb hby d3_12) rfl (Jvm.Free.XT.ii_eq_f hc12)) ?_
          show own_Goes p.tables e below (T_2.setTop (mkF m 15 #[.val (.ref r0), .val (.int p1), .val (.int p2), .val (.int v2_l3)] [])) _
          refine own_step (fun _ => XS.goto X_2.here hx rfl (pc0 := 15) (pc' := 70) rfl (hb hby d3_15) (by decide) (by decide)) ?_
          show own_Goes p.tables e below (T_2.setTop (mkF m 70 #[.val (.ref r0), .val (.int p1), .val (.int p2), .val (.int v2_l3)] [])) _
          refine own_step (fun _ => XS.iinc X_2.here hx rfl (hb hby d3_70) rfl (l' := #[.val (.ref r0), .val (.int p1), .val (.int p2), .val (.int (v2_l3 + (1 : Int32)))]) rfl) ?_
          show own_Goes p.tables e below (T_2.setTop (mkF m 73 #[.val (.ref r0), .val (.int p1), .val (.int p2), .val (.int (v2_l3 + (1 : Int32)))] [])) _
          refine own_step (fun _ => XS.goto X_2.here hx rfl (pc0 := 73) (pc' := 2) rfl (hb hby d3_73) (by decide) (by decide)) ?_
          show own_Goes p.tables e below (T_2.setTop (mkF m 2 #[.val (.ref r0), .val (.int p1), .val (.int p2), .val (.int (v2_l3 + (1 : Int32)))] [])) _
          have hv : (own_f3_2 ys p2 (fuel + 1) v2_l3) = (own_f3_2 ys p2 fuel (v2_l3 + (1 : Int32))) := by exact ((if_pos hc4)).trans (if_neg hc12)
          rw [hv]
          exact ih T_2 X_2 e_2 (v2_l3 + (1 : Int32)) (own_HS hc4 hH)
      · refine own_step (fun _ => XS.icmpYes X_2.here hx rfl (pc0 := 4) (pc' := 76) rfl (hb hby d3_4) rfl (Jvm.Free.XT.ii_ge_t hc4) (by decide) (by decide)) ?_
        show own_Goes p.tables e below (T_2.setTop (mkF m 76 #[.val (.ref r0), .val (.int p1), .val (.int p2), .val (.int v2_l3)] [])) _
        refine own_step (fun _ => XS.iconst X_2.here hx rfl (hb hby d3_76)) ?_
        show own_Goes p.tables e below (T_2.setTop (mkF m 77 #[.val (.ref r0), .val (.int p1), .val (.int p2), .val (.int v2_l3)] [(.int (-1 : Int32))])) _
        have hv : (own_f3_2 ys p2 (fuel + 1) v2_l3) = (-1 : Int32) := by exact (if_neg hc4)
        rw [hv]
        exact own_retI X_2 hx Bd.returns (hb hby d3_77) (BodyLoose.notSynchronized Bd) ⟨rfl, rfl, e_2⟩ (by decide) (by decide)
  refine own_step (fun _ => XS.iloadN X0.here hx rfl (hb hby d3_0) rfl) ?_
  show own_Goes p.tables e below (s₁.setTop (mkF m 1 #[.val (.ref r0), .val (.int p1), .val (.int p2), .unset] [(.int p1)])) _
  refine own_step (fun _ => XS.istoreN X0.here hx rfl (hb hby d3_1) rfl (l' := #[.val (.ref r0), .val (.int p1), .val (.int p2), .val (.int p1)]) rfl) ?_
  show own_Goes p.tables e below (s₁.setTop (mkF m 2 #[.val (.ref r0), .val (.int p1), .val (.int p2), .val (.int p1)] [])) _
  have hv : (own_f3 ys p1 p2) = (own_f3_2 ys p2 8 p1) := by exact rfl
  rw [hv]
  exact J2 8 s₁ X0 e0 p1 (own_H0 hp)
theorem pn_0 : plainName "com/example/sandpiper/sandpiper/broker/RequestHeadEndPinLaw" = true := by first | (simp [plainName, overriddenIn]; done) | decide +kernel
theorem pd_0_0 : parseMethodDescriptor "(IJI)B" = some ⟨[.int, .long, .int], some .byte⟩ := by decide +kernel
theorem pd_0_1 : parseMethodDescriptor "([BIII)Z" = some ⟨[(.array .byte), .int, .int, .int], some .boolean⟩ := by decide +kernel
theorem pd_0_2 : parseMethodDescriptor "([BII)I" = some ⟨[(.array .byte), .int, .int], some .int⟩ := by decide +kernel
theorem ef_0 (m : MethodId) (p0 : Int32) (q1 : Int64) (p2 : Int32) (p3 : Int32) : entryFrame m #[(.int p0), (.long q1), (.int p2), (.int p3)] maxLocals = mkF m 0 #[.val (.int p0), .val (.long q1), .second, .val (.int p2), .val (.int p3), .unset, .unset, .unset, .unset] [] := by first | (simp [entryFrame, mkF, argsToLocals, Value.category, maxLocals]; done) | rfl
def own_f0_191 (ys : List Int32) (z73 : Int32) (z89 : Int32) (v191_l8 : Int32) : Int32 :=
  if (own_f3 ys z73 z89) = v191_l8 then
    (1 : Int32)
  else
    (0 : Int32)
def own_f0 (p0 : Int32) (q1 : Int64) (p2 : Int32) (p3 : Int32) : Int32 :=
  let ys : List Int32 := [(nar .byte (own_f1 p0 q1 (0 : Int32))), (nar .byte (own_f1 p0 q1 (1 : Int32))), (nar .byte (own_f1 p0 q1 (2 : Int32))), (nar .byte (own_f1 p0 q1 (3 : Int32))), (nar .byte (own_f1 p0 q1 (4 : Int32))), (nar .byte (own_f1 p0 q1 (5 : Int32)))]
  let z73 : Int32 := ((p2 &&& (2147483647 : Int32)) - (p2 &&& (2147483647 : Int32)) / (7 : Int32) * (7 : Int32))
  let z89 : Int32 := (z73 + ((p3 &&& (2147483647 : Int32)) - (p3 &&& (2147483647 : Int32)) / ((7 : Int32) - z73) * ((7 : Int32) - z73)))
  if (own_f2 ys z73 z89 (2 : Int32)) = 0 then
    if (own_f2 ys z73 z89 (3 : Int32)) = 0 then
      if (own_f2 ys z73 z89 (4 : Int32)) = 0 then
        if (own_f2 ys z73 z89 (5 : Int32)) = 0 then
          if (own_f2 ys z73 z89 (6 : Int32)) = 0 then
            (own_f0_191 ys z73 z89 (-1 : Int32))
          else
            (own_f0_191 ys z73 z89 (6 : Int32))
        else
          (own_f0_191 ys z73 z89 (5 : Int32))
      else
        (own_f0_191 ys z73 z89 (4 : Int32))
    else
      (own_f0_191 ys z73 z89 (3 : Int32))
  else
    (own_f0_191 ys z73 z89 (2 : Int32))
set_option maxRecDepth 65536 in
set_option maxHeartbeats 40000000 in
theorem rm0 (l : Launch) (Z : State) (a0 : Array Value) (hw : ∀ d ∈ tables_1, d.before a0 Z = true) (ws : List Jvm.Cond) (p0 : Int32) (q1 : Int64) (p2 : Int32) (p3 : Int32) (h0 : Heap) (n0 : Nat) (Z0 : n0 ≤ h0.size) :
    MetFree l x (head1 (Jvm.Cond.code x code maxLocals ret :: ws) room_1) (fun a U => a = #[(.int p0), (.long q1), (.int p2), (.int p3)] ∧ Z.Warmed39 U.vm ∧ U.heap = h0) (fun _ _ _ _ _ => True) (fun _ U o U' => ∃ v L, o = .returned v ∧ own_Ql (some (.int (own_f0 p0 q1 p2 p3))) n0 v U'.heap L ∧ FrameEnd U o U' L 1 6) := by
  refine MetFree.of_bodySF (plainFor_of_name pn_0) hisR ?_
  intro p e s m args below meth c s₁ Bd hml0 hP hK
  obtain ⟨rfl, hZ, hh⟩ := hP
  have hx := Bd.exec
  have hby := Bd.bytes
  have hml : c.maxLocals = 9 := hml0
  have hown : s.vm.findClass "com/example/sandpiper/sandpiper/broker/RequestHeadEndPinLaw" = some m.cls := findClass_of_methodNamed Bd.named
  have hnm := (name_of_methodNamed Bd.named Bd.method).1
  have X0 : Stand p l e room_1 s m #[(.int p0), (.long q1), (.int p2), (.int p3)] below meth c s₁ [] 0 0 := Stand.of_body Bd
  have e0 : s₁.heap = h0 := by rw [← hh, Bd.state]; rfl
  have N0 := Fr.nil n0
  refine own_enter (ef_0 m p0 q1 p2 p3) ?_
  show own_Goes p.tables e below (s₁.setTop (mkF m 0 #[.val (.int p0), .val (.long q1), .second, .val (.int p2), .val (.int p3), .unset, .unset, .unset, .unset] [])) (own_P s (own_Ql (some (.int (own_f0 p0 q1 p2 p3))) n0) 1 6)
  refine own_step (fun _ => XS.bipush X0.here hx rfl (hb hby at_0)) ?_
  show own_Goes p.tables e below (s₁.setTop (mkF m 2 #[.val (.int p0), .val (.long q1), .second, .val (.int p2), .val (.int p3), .unset, .unset, .unset, .unset] [(.int (6 : Int32))])) _
  obtain ⟨T1, h1, b2, k1, X1, e1, E1, g1, V1, st1⟩ := own_newA X0 hx hZ (hw _ (List.mem_of_getElem? (i := 0) rfl)) e0 (g := (mkF m 2 #[.val (.int p0), .val (.long q1), .second, .val (.int p2), .val (.int p3), .unset, .unset, .unset, .unset] [(.int (6 : Int32))])) rfl (hb hby at_2) rfl 6 (by decide) (by decide) (by decide) (by decide) (by decide) rfl
  have g_b2 : n0 ≤ b2 := Nat.le_trans Z0 (Nat.le_of_eq g1.symm)
  have sz_b2 : h0.size ≤ b2 := Nat.le_trans (Keep.refl h0 []).1 (Nat.le_of_eq g1.symm)
  have K1 : Keep h0 h1 [] := (Keep.refl h0 []).ext E1
  have Z1 : n0 ≤ h1.size := Nat.le_trans Z0 E1.1
  have V1 : own_A Z h1 b2 k1 .byte (6 : Int32) [(0 : Int32), (0 : Int32), (0 : Int32), (0 : Int32), (0 : Int32), (0 : Int32)] := V1
  refine own_step (st1) ?_
  show own_Goes p.tables e below (T1.setTop (mkF m 4 #[.val (.int p0), .val (.long q1), .second, .val (.int p2), .val (.int p3), .unset, .unset, .unset, .unset] [(.ref b2)])) _
  refine own_step (fun _ => XS.astore X1.here hx rfl (hb hby at_4) rfl rfl (l' := #[.val (.int p0), .val (.long q1), .second, .val (.int p2), .val (.int p3), .val (.ref b2), .unset, .unset, .unset]) rfl) ?_
  show own_Goes p.tables e below (T1.setTop (mkF m 6 #[.val (.int p0), .val (.long q1), .second, .val (.int p2), .val (.int p3), .val (.ref b2), .unset, .unset, .unset] [])) _
  refine own_step (fun _ => XS.aload X1.here hx rfl (hb hby at_6) rfl rfl) ?_
  show own_Goes p.tables e below (T1.setTop (mkF m 8 #[.val (.int p0), .val (.long q1), .second, .val (.int p2), .val (.int p3), .val (.ref b2), .unset, .unset, .unset] [(.ref b2)])) _
  refine own_step (fun _ => XS.iconst X1.here hx rfl (hb hby at_8)) ?_
  show own_Goes p.tables e below (T1.setTop (mkF m 9 #[.val (.int p0), .val (.long q1), .second, .val (.int p2), .val (.int p3), .val (.ref b2), .unset, .unset, .unset] [(.int (0 : Int32)), (.ref b2)])) _
  refine own_step (fun _ => XS.iloadN X1.here hx rfl (hb hby at_9) rfl) ?_
  show own_Goes p.tables e below (T1.setTop (mkF m 10 #[.val (.int p0), .val (.long q1), .second, .val (.int p2), .val (.int p3), .val (.ref b2), .unset, .unset, .unset] [(.int p0), (.int (0 : Int32)), (.ref b2)])) _
  refine own_step (fun _ => XS.lloadN X1.here hx rfl (hb hby at_10) rfl) ?_
  show own_Goes p.tables e below (T1.setTop (mkF m 11 #[.val (.int p0), .val (.long q1), .second, .val (.int p2), .val (.int p3), .val (.ref b2), .unset, .unset, .unset] [(.long q1), (.int p0), (.int (0 : Int32)), (.ref b2)])) _
  refine own_step (fun _ => XS.iconst X1.here hx rfl (hb hby at_11)) ?_
  show own_Goes p.tables e below (T1.setTop (mkF m 12 #[.val (.int p0), .val (.long q1), .second, .val (.int p2), .val (.int p3), .val (.ref b2), .unset, .unset, .unset] [(.int (0 : Int32)), (.long q1), (.int p0), (.int (0 : Int32)), (.ref b2)])) _
  obtain ⟨_, _, ⟨T2, L2, k2, n2⟩, -, X2, ⟨Lc2, hQ2, l2, y2, z2⟩, st2⟩ := Jvm.LawKit.callS X1 hx (y := (⟨"com/example/sandpiper/sandpiper/broker/RequestHeadEndPinLaw", "pick", "(IJI)B"⟩ : MethodName)) hown (mvT hZ (hw _ (List.mem_of_getElem? (i := 1) rfl))) (mvT hZ (hw _ (List.mem_of_getElem? (i := 2) rfl))) (mvT hZ (hw _ (List.mem_of_getElem? (i := 3) rfl))) (mvT hZ (hw _ (List.mem_of_getElem? (i := 4) rfl))) (by decide) (backOf (W := 2) (rm1 l Z a0 hw [] p0 q1 (0 : Int32) h1 n0 Z1) hZ (hw _ (List.mem_of_getElem? (i := 4) rfl)) (hw _ (List.mem_of_getElem? (i := 3) rfl)) (by decide) (by decide)) (g := (mkF m 12 #[.val (.int p0), .val (.long q1), .second, .val (.int p2), .val (.int p3), .val (.ref b2), .unset, .unset, .unset] [(.int (0 : Int32)), (.long q1), (.int p0), (.int (0 : Int32)), (.ref b2)])) rfl (by rw [hml]; rfl) (argsL := [(.int p0), (.long q1), (.int (0 : Int32))]) (rest := [(.int (0 : Int32)), (.ref b2)]) (lenOf pd_0_0 rfl) rfl (by show 2 * 0 + _ ≤ _; exact Nat.le_of_eq rfl) (hb hby at_12) (fun _ _ => ⟨rfl, e1, (by decide : (0 + 1) + 0 ≤ _), (by decide : (0 + 6) + 0 ≤ _)⟩)
  dsimp only [Pt.U, Pt.locs, Pt.cells, Pt.slots] at X2 l2 y2 z2 st2 hQ2
  subst l2 y2 z2
  obtain ⟨rfl, rfl, e2⟩ := hQ2
  have X2 : Stand p l e room_1 s m #[(.int p0), (.long q1), (.int p2), (.int p3)] below meth c T2 [] (0 + 1) (0 + 6) := own_flat X2
  refine own_step (st2) ?_
  show own_Goes p.tables e below (T2.setTop (mkF m 15 #[.val (.int p0), .val (.long q1), .second, .val (.int p2), .val (.int p3), .val (.ref b2), .unset, .unset, .unset] [(.int (own_f1 p0 q1 (0 : Int32))), (.int (0 : Int32)), (.ref b2)])) _
  obtain ⟨T3, h3, L3, X3, e3, N3, V3, W3, st3⟩ := own_stB X2 hx hZ e2 V1 (j := (0 : Int32)) 0 ⟨by decide, by decide⟩ (by decide) (show 0 < 6 by decide) (g := (mkF m 15 #[.val (.int p0), .val (.long q1), .second, .val (.int p2), .val (.int p3), .val (.ref b2), .unset, .unset, .unset] [(.int (own_f1 p0 q1 (0 : Int32))), (.int (0 : Int32)), (.ref b2)])) rfl rfl (hb hby at_15)
  have N3 := N3 n0 N0 g_b2
  have K3 : Keep h0 h3 [] := K1.wr W3 (Or.inr sz_b2)
  have Z3 : n0 ≤ h3.size := Nat.le_trans Z0 K3.1
  have V3 : own_A Z h3 b2 k1 .byte (6 : Int32) [(nar .byte (own_f1 p0 q1 (0 : Int32))), (0 : Int32), (0 : Int32), (0 : Int32), (0 : Int32), (0 : Int32)] := V3
  refine own_step (st3) ?_
  show own_Goes p.tables e below (T3.setTop (mkF m 16 #[.val (.int p0), .val (.long q1), .second, .val (.int p2), .val (.int p3), .val (.ref b2), .unset, .unset, .unset] [])) _
  refine own_step (fun _ => XS.aload X3.here hx rfl (hb hby at_16) rfl rfl) ?_
  show own_Goes p.tables e below (T3.setTop (mkF m 18 #[.val (.int p0), .val (.long q1), .second, .val (.int p2), .val (.int p3), .val (.ref b2), .unset, .unset, .unset] [(.ref b2)])) _
  refine own_step (fun _ => XS.iconst X3.here hx rfl (hb hby at_18)) ?_
  show own_Goes p.tables e below (T3.setTop (mkF m 19 #[.val (.int p0), .val (.long q1), .second, .val (.int p2), .val (.int p3), .val (.ref b2), .unset, .unset, .unset] [(.int (1 : Int32)), (.ref b2)])) _
  refine own_step (fun _ => XS.iloadN X3.here hx rfl (hb hby at_19) rfl) ?_
  show own_Goes p.tables e below (T3.setTop (mkF m 20 #[.val (.int p0), .val (.long q1), .second, .val (.int p2), .val (.int p3), .val (.ref b2), .unset, .unset, .unset] [(.int p0), (.int (1 : Int32)), (.ref b2)])) _
  refine own_step (fun _ => XS.lloadN X3.here hx rfl (hb hby at_20) rfl) ?_
  show own_Goes p.tables e below (T3.setTop (mkF m 21 #[.val (.int p0), .val (.long q1), .second, .val (.int p2), .val (.int p3), .val (.ref b2), .unset, .unset, .unset] [(.long q1), (.int p0), (.int (1 : Int32)), (.ref b2)])) _
  refine own_step (fun _ => XS.iconst X3.here hx rfl (hb hby at_21)) ?_
  show own_Goes p.tables e below (T3.setTop (mkF m 22 #[.val (.int p0), .val (.long q1), .second, .val (.int p2), .val (.int p3), .val (.ref b2), .unset, .unset, .unset] [(.int (1 : Int32)), (.long q1), (.int p0), (.int (1 : Int32)), (.ref b2)])) _
  obtain ⟨_, _, ⟨T4, L4, k4, n4⟩, -, X4, ⟨Lc4, hQ4, l4, y4, z4⟩, st4⟩ := Jvm.LawKit.callS X3 hx (y := (⟨"com/example/sandpiper/sandpiper/broker/RequestHeadEndPinLaw", "pick", "(IJI)B"⟩ : MethodName)) hown (mvT hZ (hw _ (List.mem_of_getElem? (i := 1) rfl))) (mvT hZ (hw _ (List.mem_of_getElem? (i := 2) rfl))) (mvT hZ (hw _ (List.mem_of_getElem? (i := 3) rfl))) (mvT hZ (hw _ (List.mem_of_getElem? (i := 4) rfl))) (by decide) (backOf (W := 2) (rm1 l Z a0 hw [] p0 q1 (1 : Int32) h3 n0 Z3) hZ (hw _ (List.mem_of_getElem? (i := 4) rfl)) (hw _ (List.mem_of_getElem? (i := 3) rfl)) (by decide) (by decide)) (g := (mkF m 22 #[.val (.int p0), .val (.long q1), .second, .val (.int p2), .val (.int p3), .val (.ref b2), .unset, .unset, .unset] [(.int (1 : Int32)), (.long q1), (.int p0), (.int (1 : Int32)), (.ref b2)])) rfl (by rw [hml]; rfl) (argsL := [(.int p0), (.long q1), (.int (1 : Int32))]) (rest := [(.int (1 : Int32)), (.ref b2)]) (lenOf pd_0_0 rfl) rfl (by show 2 * 0 + _ ≤ _; exact Nat.le_of_eq rfl) (hb hby at_22) (fun _ _ => ⟨rfl, e3, (by decide : (0 + 1) + 0 ≤ _), (by decide : (0 + 6) + 0 ≤ _)⟩)
  dsimp only [Pt.U, Pt.locs, Pt.cells, Pt.slots] at X4 l4 y4 z4 st4 hQ4
  subst l4 y4 z4
  obtain ⟨rfl, rfl, e4⟩ := hQ4
  have X4 : Stand p l e room_1 s m #[(.int p0), (.long q1), (.int p2), (.int p3)] below meth c T4 L3 (0 + 1) (0 + 6) := own_flat X4
  refine own_step (st4) ?_
  show own_Goes p.tables e below (T4.setTop (mkF m 25 #[.val (.int p0), .val (.long q1), .second, .val (.int p2), .val (.int p3), .val (.ref b2), .unset, .unset, .unset] [(.int (own_f1 p0 q1 (1 : Int32))), (.int (1 : Int32)), (.ref b2)])) _
  obtain ⟨T5, h5, L5, X5, e5, N5, V5, W5, st5⟩ := own_stB X4 hx hZ e4 V3 (j := (1 : Int32)) 1 ⟨by decide, by decide⟩ (by decide) (show 1 < 6 by decide) (g := (mkF m 25 #[.val (.int p0), .val (.long q1), .second, .val (.int p2), .val (.int p3), .val (.ref b2), .unset, .unset, .unset] [(.int (own_f1 p0 q1 (1 : Int32))), (.int (1 : Int32)), (.ref b2)])) rfl rfl (hb hby at_25)
  have N5 := N5 n0 N3 g_b2
  have K5 : Keep h0 h5 [] := K3.wr W5 (Or.inr sz_b2)
  have Z5 : n0 ≤ h5.size := Nat.le_trans Z0 K5.1
  have V5 : own_A Z h5 b2 k1 .byte (6 : Int32) [(nar .byte (own_f1 p0 q1 (0 : Int32))), (nar .byte (own_f1 p0 q1 (1 : Int32))), (0 : Int32), (0 : Int32), (0 : Int32), (0 : Int32)] := V5
  refine own_step (st5) ?_
  show own_Goes p.tables e below (T5.setTop (mkF m 26 #[.val (.int p0), .val (.long q1), .second, .val (.int p2), .val (.int p3), .val (.ref b2), .unset, .unset, .unset] [])) _
  refine own_step (fun _ => XS.aload X5.here hx rfl (hb hby at_26) rfl rfl) ?_
  show own_Goes p.tables e below (T5.setTop (mkF m 28 #[.val (.int p0), .val (.long q1), .second, .val (.int p2), .val (.int p3), .val (.ref b2), .unset, .unset, .unset] [(.ref b2)])) _
  refine own_step (fun _ => XS.iconst X5.here hx rfl (hb hby at_28)) ?_
  show own_Goes p.tables e below (T5.setTop (mkF m 29 #[.val (.int p0), .val (.long q1), .second, .val (.int p2), .val (.int p3), .val (.ref b2), .unset, .unset, .unset] [(.int (2 : Int32)), (.ref b2)])) _
  refine own_step (fun _ => XS.iloadN X5.here hx rfl (hb hby at_29) rfl) ?_
  show own_Goes p.tables e below (T5.setTop (mkF m 30 #[.val (.int p0), .val (.long q1), .second, .val (.int p2), .val (.int p3), .val (.ref b2), .unset, .unset, .unset] [(.int p0), (.int (2 : Int32)), (.ref b2)])) _
  refine own_step (fun _ => XS.lloadN X5.here hx rfl (hb hby at_30) rfl) ?_
  show own_Goes p.tables e below (T5.setTop (mkF m 31 #[.val (.int p0), .val (.long q1), .second, .val (.int p2), .val (.int p3), .val (.ref b2), .unset, .unset, .unset] [(.long q1), (.int p0), (.int (2 : Int32)), (.ref b2)])) _
  refine own_step (fun _ => XS.iconst X5.here hx rfl (hb hby at_31)) ?_
  show own_Goes p.tables e below (T5.setTop (mkF m 32 #[.val (.int p0), .val (.long q1), .second, .val (.int p2), .val (.int p3), .val (.ref b2), .unset, .unset, .unset] [(.int (2 : Int32)), (.long q1), (.int p0), (.int (2 : Int32)), (.ref b2)])) _
  obtain ⟨_, _, ⟨T6, L6, k6, n6⟩, -, X6, ⟨Lc6, hQ6, l6, y6, z6⟩, st6⟩ := Jvm.LawKit.callS X5 hx (y := (⟨"com/example/sandpiper/sandpiper/broker/RequestHeadEndPinLaw", "pick", "(IJI)B"⟩ : MethodName)) hown (mvT hZ (hw _ (List.mem_of_getElem? (i := 1) rfl))) (mvT hZ (hw _ (List.mem_of_getElem? (i := 2) rfl))) (mvT hZ (hw _ (List.mem_of_getElem? (i := 3) rfl))) (mvT hZ (hw _ (List.mem_of_getElem? (i := 4) rfl))) (by decide) (backOf (W := 2) (rm1 l Z a0 hw [] p0 q1 (2 : Int32) h5 n0 Z5) hZ (hw _ (List.mem_of_getElem? (i := 4) rfl)) (hw _ (List.mem_of_getElem? (i := 3) rfl)) (by decide) (by decide)) (g := (mkF m 32 #[.val (.int p0), .val (.long q1), .second, .val (.int p2), .val (.int p3), .val (.ref b2), .unset, .unset, .unset] [(.int (2 : Int32)), (.long q1), (.int p0), (.int (2 : Int32)), (.ref b2)])) rfl (by rw [hml]; rfl) (argsL := [(.int p0), (.long q1), (.int (2 : Int32))]) (rest := [(.int (2 : Int32)), (.ref b2)]) (lenOf pd_0_0 rfl) rfl (by show 2 * 0 + _ ≤ _; exact Nat.le_of_eq rfl) (hb hby at_32) (fun _ _ => ⟨rfl, e5, (by decide : (0 + 1) + 0 ≤ _), (by decide : (0 + 6) + 0 ≤ _)⟩)
  dsimp only [Pt.U, Pt.locs, Pt.cells, Pt.slots] at X6 l6 y6 z6 st6 hQ6
  subst l6 y6 z6
  obtain ⟨rfl, rfl, e6⟩ := hQ6
  have X6 : Stand p l e room_1 s m #[(.int p0), (.long q1), (.int p2), (.int p3)] below meth c T6 L5 (0 + 1) (0 + 6) := own_flat X6
  refine own_step (st6) ?_
  show own_Goes p.tables e below (T6.setTop (mkF m 35 #[.val (.int p0), .val (.long q1), .second, .val (.int p2), .val (.int p3), .val (.ref b2), .unset, .unset, .unset] [(.int (own_f1 p0 q1 (2 : Int32))), (.int (2 : Int32)), (.ref b2)])) _
  obtain ⟨T7, h7, L7, X7, e7, N7, V7, W7, st7⟩ := own_stB X6 hx hZ e6 V5 (j := (2 : Int32)) 2 ⟨by decide, by decide⟩ (by decide) (show 2 < 6 by decide) (g := (mkF m 35 #[.val (.int p0), .val (.long q1), .second, .val (.int p2), .val (.int p3), .val (.ref b2), .unset, .unset, .unset] [(.int (own_f1 p0 q1 (2 : Int32))), (.int (2 : Int32)), (.ref b2)])) rfl rfl (hb hby at_35)
  have N7 := N7 n0 N5 g_b2
  have K7 : Keep h0 h7 [] := K5.wr W7 (Or.inr sz_b2)
  have Z7 : n0 ≤ h7.size := Nat.le_trans Z0 K7.1
  have V7 : own_A Z h7 b2 k1 .byte (6 : Int32) [(nar .byte (own_f1 p0 q1 (0 : Int32))), (nar .byte (own_f1 p0 q1 (1 : Int32))), (nar .byte (own_f1 p0 q1 (2 : Int32))), (0 : Int32), (0 : Int32), (0 : Int32)] := V7
  refine own_step (st7) ?_
  show own_Goes p.tables e below (T7.setTop (mkF m 36 #[.val (.int p0), .val (.long q1), .second, .val (.int p2), .val (.int p3), .val (.ref b2), .unset, .unset, .unset] [])) _
  refine own_step (fun _ => XS.aload X7.here hx rfl (hb hby at_36) rfl rfl) ?_
  show own_Goes p.tables e below (T7.setTop (mkF m 38 #[.val (.int p0), .val (.long q1), .second, .val (.int p2), .val (.int p3), .val (.ref b2), .unset, .unset, .unset] [(.ref b2)])) _
  refine own_step (fun _ => XS.iconst X7.here hx rfl (hb hby at_38)) ?_
  show own_Goes p.tables e below (T7.setTop (mkF m 39 #[.val (.int p0), .val (.long q1), .second, .val (.int p2), .val (.int p3), .val (.ref b2), .unset, .unset, .unset] [(.int (3 : Int32)), (.ref b2)])) _
  refine own_step (fun _ => XS.iloadN X7.here hx rfl (hb hby at_39) rfl) ?_
  show own_Goes p.tables e below (T7.setTop (mkF m 40 #[.val (.int p0), .val (.long q1), .second, .val (.int p2), .val (.int p3), .val (.ref b2), .unset, .unset, .unset] [(.int p0), (.int (3 : Int32)), (.ref b2)])) _
  refine own_step (fun _ => XS.lloadN X7.here hx rfl (hb hby at_40) rfl) ?_
  show own_Goes p.tables e below (T7.setTop (mkF m 41 #[.val (.int p0), .val (.long q1), .second, .val (.int p2), .val (.int p3), .val (.ref b2), .unset, .unset, .unset] [(.long q1), (.int p0), (.int (3 : Int32)), (.ref b2)])) _
  refine own_step (fun _ => XS.iconst X7.here hx rfl (hb hby at_41)) ?_
  show own_Goes p.tables e below (T7.setTop (mkF m 42 #[.val (.int p0), .val (.long q1), .second, .val (.int p2), .val (.int p3), .val (.ref b2), .unset, .unset, .unset] [(.int (3 : Int32)), (.long q1), (.int p0), (.int (3 : Int32)), (.ref b2)])) _
  obtain ⟨_, _, ⟨T8, L8, k8, n8⟩, -, X8, ⟨Lc8, hQ8, l8, y8, z8⟩, st8⟩ := Jvm.LawKit.callS X7 hx (y := (⟨"com/example/sandpiper/sandpiper/broker/RequestHeadEndPinLaw", "pick", "(IJI)B"⟩ : MethodName)) hown (mvT hZ (hw _ (List.mem_of_getElem? (i := 1) rfl))) (mvT hZ (hw _ (List.mem_of_getElem? (i := 2) rfl))) (mvT hZ (hw _ (List.mem_of_getElem? (i := 3) rfl))) (mvT hZ (hw _ (List.mem_of_getElem? (i := 4) rfl))) (by decide) (backOf (W := 2) (rm1 l Z a0 hw [] p0 q1 (3 : Int32) h7 n0 Z7) hZ (hw _ (List.mem_of_getElem? (i := 4) rfl)) (hw _ (List.mem_of_getElem? (i := 3) rfl)) (by decide) (by decide)) (g := (mkF m 42 #[.val (.int p0), .val (.long q1), .second, .val (.int p2), .val (.int p3), .val (.ref b2), .unset, .unset, .unset] [(.int (3 : Int32)), (.long q1), (.int p0), (.int (3 : Int32)), (.ref b2)])) rfl (by rw [hml]; rfl) (argsL := [(.int p0), (.long q1), (.int (3 : Int32))]) (rest := [(.int (3 : Int32)), (.ref b2)]) (lenOf pd_0_0 rfl) rfl (by show 2 * 0 + _ ≤ _; exact Nat.le_of_eq rfl) (hb hby at_42) (fun _ _ => ⟨rfl, e7, (by decide : (0 + 1) + 0 ≤ _), (by decide : (0 + 6) + 0 ≤ _)⟩)
  dsimp only [Pt.U, Pt.locs, Pt.cells, Pt.slots] at X8 l8 y8 z8 st8 hQ8
  subst l8 y8 z8
  obtain ⟨rfl, rfl, e8⟩ := hQ8
  have X8 : Stand p l e room_1 s m #[(.int p0), (.long q1), (.int p2), (.int p3)] below meth c T8 L7 (0 + 1) (0 + 6) := own_flat X8
  refine own_step (st8) ?_
  show own_Goes p.tables e below (T8.setTop (mkF m 45 #[.val (.int p0), .val (.long q1), .second, .val (.int p2), .val (.int p3), .val (.ref b2), .unset, .unset, .unset] [(.int (own_f1 p0 q1 (3 : Int32))), (.int (3 : Int32)), (.ref b2)])) _
  obtain ⟨T9, h9, L9, X9, e9, N9, V9, W9, st9⟩ := own_stB X8 hx hZ e8 V7 (j := (3 : Int32)) 3 ⟨by decide, by decide⟩ (by decide) (show 3 < 6 by decide) (g := (mkF m 45 #[.val (.int p0), .val (.long q1), .second, .val (.int p2), .val (.int p3), .val (.ref b2), .unset, .unset, .unset] [(.int (own_f1 p0 q1 (3 : Int32))), (.int (3 : Int32)), (.ref b2)])) rfl rfl (hb hby at_45)
  have N9 := N9 n0 N7 g_b2
  have K9 : Keep h0 h9 [] := K7.wr W9 (Or.inr sz_b2)
  have Z9 : n0 ≤ h9.size := Nat.le_trans Z0 K9.1
  have V9 : own_A Z h9 b2 k1 .byte (6 : Int32) [(nar .byte (own_f1 p0 q1 (0 : Int32))), (nar .byte (own_f1 p0 q1 (1 : Int32))), (nar .byte (own_f1 p0 q1 (2 : Int32))), (nar .byte (own_f1 p0 q1 (3 : Int32))), (0 : Int32), (0 : Int32)] := V9
  refine own_step (st9) ?_
  show own_Goes p.tables e below (T9.setTop (mkF m 46 #[.val (.int p0), .val (.long q1), .second, .val (.int p2), .val (.int p3), .val (.ref b2), .unset, .unset, .unset] [])) _
  refine own_step (fun _ => XS.aload X9.here hx rfl (hb hby at_46) rfl rfl) ?_
  show own_Goes p.tables e below (T9.setTop (mkF m 48 #[.val (.int p0), .val (.long q1), .second, .val (.int p2), .val (.int p3), .val (.ref b2), .unset, .unset, .unset] [(.ref b2)])) _
  refine own_step (fun _ => XS.iconst X9.here hx rfl (hb hby at_48)) ?_
  show own_Goes p.tables e below (T9.setTop (mkF m 49 #[.val (.int p0), .val (.long q1), .second, .val (.int p2), .val (.int p3), .val (.ref b2), .unset, .unset, .unset] [(.int (4 : Int32)), (.ref b2)])) _
  refine own_step (fun _ => XS.iloadN X9.here hx rfl (hb hby at_49) rfl) ?_
  show own_Goes p.tables e below (T9.setTop (mkF m 50 #[.val (.int p0), .val (.long q1), .second, .val (.int p2), .val (.int p3), .val (.ref b2), .unset, .unset, .unset] [(.int p0), (.int (4 : Int32)), (.ref b2)])) _
  refine own_step (fun _ => XS.lloadN X9.here hx rfl (hb hby at_50) rfl) ?_
  show own_Goes p.tables e below (T9.setTop (mkF m 51 #[.val (.int p0), .val (.long q1), .second, .val (.int p2), .val (.int p3), .val (.ref b2), .unset, .unset, .unset] [(.long q1), (.int p0), (.int (4 : Int32)), (.ref b2)])) _
  refine own_step (fun _ => XS.iconst X9.here hx rfl (hb hby at_51)) ?_
  show own_Goes p.tables e below (T9.setTop (mkF m 52 #[.val (.int p0), .val (.long q1), .second, .val (.int p2), .val (.int p3), .val (.ref b2), .unset, .unset, .unset] [(.int (4 : Int32)), (.long q1), (.int p0), (.int (4 : Int32)), (.ref b2)])) _
  obtain ⟨_, _, ⟨T10, L10, k10, n10⟩, -, X10, ⟨Lc10, hQ10, l10, y10, z10⟩, st10⟩ := Jvm.LawKit.callS X9 hx (y := (⟨"com/example/sandpiper/sandpiper/broker/RequestHeadEndPinLaw", "pick", "(IJI)B"⟩ : MethodName)) hown (mvT hZ (hw _ (List.mem_of_getElem? (i := 1) rfl))) (mvT hZ (hw _ (List.mem_of_getElem? (i := 2) rfl))) (mvT hZ (hw _ (List.mem_of_getElem? (i := 3) rfl))) (mvT hZ (hw _ (List.mem_of_getElem? (i := 4) rfl))) (by decide) (backOf (W := 2) (rm1 l Z a0 hw [] p0 q1 (4 : Int32) h9 n0 Z9) hZ (hw _ (List.mem_of_getElem? (i := 4) rfl)) (hw _ (List.mem_of_getElem? (i := 3) rfl)) (by decide) (by decide)) (g := (mkF m 52 #[.val (.int p0), .val (.long q1), .second, .val (.int p2), .val (.int p3), .val (.ref b2), .unset, .unset, .unset] [(.int (4 : Int32)), (.long q1), (.int p0), (.int (4 : Int32)), (.ref b2)])) rfl (by rw [hml]; rfl) (argsL := [(.int p0), (.long q1), (.int (4 : Int32))]) (rest := [(.int (4 : Int32)), (.ref b2)]) (lenOf pd_0_0 rfl) rfl (by show 2 * 0 + _ ≤ _; exact Nat.le_of_eq rfl) (hb hby at_52) (fun _ _ => ⟨rfl, e9, (by decide : (0 + 1) + 0 ≤ _), (by decide : (0 + 6) + 0 ≤ _)⟩)
  dsimp only [Pt.U, Pt.locs, Pt.cells, Pt.slots] at X10 l10 y10 z10 st10 hQ10
  subst l10 y10 z10
  obtain ⟨rfl, rfl, e10⟩ := hQ10
  have X10 : Stand p l e room_1 s m #[(.int p0), (.long q1), (.int p2), (.int p3)] below meth c T10 L9 (0 + 1) (0 + 6) := own_flat X10
  refine own_step (st10) ?_
  show own_Goes p.tables e below (T10.setTop (mkF m 55 #[.val (.int p0), .val (.long q1), .second, .val (.int p2), .val (.int p3), .val (.ref b2), .unset, .unset, .unset] [(.int (own_f1 p0 q1 (4 : Int32))), (.int (4 : Int32)), (.ref b2)])) _
  obtain ⟨T11, h11, L11, X11, e11, N11, V11, W11, st11⟩ := own_stB X10 hx hZ e10 V9 (j := (4 : Int32)) 4 ⟨by decide, by decide⟩ (by decide) (show 4 < 6 by decide) (g := (mkF m 55 #[.val (.int p0), .val (.long q1), .second, .val (.int p2), .val (.int p3), .val (.ref b2), .unset, .unset, .unset] [(.int (own_f1 p0 q1 (4 : Int32))), (.int (4 : Int32)), (.ref b2)])) rfl rfl (hb hby at_55)
  have N11 := N11 n0 N9 g_b2
  have K11 : Keep h0 h11 [] := K9.wr W11 (Or.inr sz_b2)
  have Z11 : n0 ≤ h11.size := Nat.le_trans Z0 K11.1
  have V11 : own_A Z h11 b2 k1 .byte (6 : Int32) [(nar .byte (own_f1 p0 q1 (0 : Int32))), (nar .byte (own_f1 p0 q1 (1 : Int32))), (nar .byte (own_f1 p0 q1 (2 : Int32))), (nar .byte (own_f1 p0 q1 (3 : Int32))), (nar .byte (own_f1 p0 q1 (4 : Int32))), (0 : Int32)] := V11
  refine own_step (st11) ?_
  show own_Goes p.tables e below (T11.setTop (mkF m 56 #[.val (.int p0), .val (.long q1), .second, .val (.int p2), .val (.int p3), .val (.ref b2), .unset, .unset, .unset] [])) _
  refine own_step (fun _ => XS.aload X11.here hx rfl (hb hby at_56) rfl rfl) ?_
  show own_Goes p.tables e below (T11.setTop (mkF m 58 #[.val (.int p0), .val (.long q1), .second, .val (.int p2), .val (.int p3), .val (.ref b2), .unset, .unset, .unset] [(.ref b2)])) _
  refine own_step (fun _ => XS.iconst X11.here hx rfl (hb hby at_58)) ?_
  show own_Goes p.tables e below (T11.setTop (mkF m 59 #[.val (.int p0), .val (.long q1), .second, .val (.int p2), .val (.int p3), .val (.ref b2), .unset, .unset, .unset] [(.int (5 : Int32)), (.ref b2)])) _
  refine own_step (fun _ => XS.iloadN X11.here hx rfl (hb hby at_59) rfl) ?_
  show own_Goes p.tables e below (T11.setTop (mkF m 60 #[.val (.int p0), .val (.long q1), .second, .val (.int p2), .val (.int p3), .val (.ref b2), .unset, .unset, .unset] [(.int p0), (.int (5 : Int32)), (.ref b2)])) _
  refine own_step (fun _ => XS.lloadN X11.here hx rfl (hb hby at_60) rfl) ?_
  show own_Goes p.tables e below (T11.setTop (mkF m 61 #[.val (.int p0), .val (.long q1), .second, .val (.int p2), .val (.int p3), .val (.ref b2), .unset, .unset, .unset] [(.long q1), (.int p0), (.int (5 : Int32)), (.ref b2)])) _
  refine own_step (fun _ => XS.iconst X11.here hx rfl (hb hby at_61)) ?_
  show own_Goes p.tables e below (T11.setTop (mkF m 62 #[.val (.int p0), .val (.long q1), .second, .val (.int p2), .val (.int p3), .val (.ref b2), .unset, .unset, .unset] [(.int (5 : Int32)), (.long q1), (.int p0), (.int (5 : Int32)), (.ref b2)])) _
  obtain ⟨_, _, ⟨T12, L12, k12, n12⟩, -, X12, ⟨Lc12, hQ12, l12, y12, z12⟩, st12⟩ := Jvm.LawKit.callS X11 hx (y := (⟨"com/example/sandpiper/sandpiper/broker/RequestHeadEndPinLaw", "pick", "(IJI)B"⟩ : MethodName)) hown (mvT hZ (hw _ (List.mem_of_getElem? (i := 1) rfl))) (mvT hZ (hw _ (List.mem_of_getElem? (i := 2) rfl))) (mvT hZ (hw _ (List.mem_of_getElem? (i := 3) rfl))) (mvT hZ (hw _ (List.mem_of_getElem? (i := 4) rfl))) (by decide) (backOf (W := 2) (rm1 l Z a0 hw [] p0 q1 (5 : Int32) h11 n0 Z11) hZ (hw _ (List.mem_of_getElem? (i := 4) rfl)) (hw _ (List.mem_of_getElem? (i := 3) rfl)) (by decide) (by decide)) (g := (mkF m 62 #[.val (.int p0), .val (.long q1), .second, .val (.int p2), .val (.int p3), .val (.ref b2), .unset, .unset, .unset] [(.int (5 : Int32)), (.long q1), (.int p0), (.int (5 : Int32)), (.ref b2)])) rfl (by rw [hml]; rfl) (argsL := [(.int p0), (.long q1), (.int (5 : Int32))]) (rest := [(.int (5 : Int32)), (.ref b2)]) (lenOf pd_0_0 rfl) rfl (by show 2 * 0 + _ ≤ _; exact Nat.le_of_eq rfl) (hb hby at_62) (fun _ _ => ⟨rfl, e11, (by decide : (0 + 1) + 0 ≤ _), (by decide : (0 + 6) + 0 ≤ _)⟩)
  dsimp only [Pt.U, Pt.locs, Pt.cells, Pt.slots] at X12 l12 y12 z12 st12 hQ12
  subst l12 y12 z12
  obtain ⟨rfl, rfl, e12⟩ := hQ12
  have X12 : Stand p l e room_1 s m #[(.int p0), (.long q1), (.int p2), (.int p3)] below meth c T12 L11 (0 + 1) (0 + 6) := own_flat X12
  refine own_step (st12) ?_
  show own_Goes p.tables e below (T12.setTop (mkF m 65 #[.val (.int p0), .val (.long q1), .second, .val (.int p2), .val (.int p3), .val (.ref b2), .unset, .unset, .unset] [(.int (own_f1 p0 q1 (5 : Int32))), (.int (5 : Int32)), (.ref b2)])) _
  obtain ⟨T13, h13, L13, X13, e13, N13, V13, W13, st13⟩ := own_stB X12 hx hZ e12 V11 (j := (5 : Int32)) 5 ⟨by decide, by decide⟩ (by decide) (show 5 < 6 by decide) (g := (mkF m 65 #[.val (.int p0), .val (.long q1), .second, .val (.int p2), .val (.int p3), .val (.ref b2), .unset, .unset, .unset] [(.int (own_f1 p0 q1 (5 : Int32))), (.int (5 : Int32)), (.ref b2)])) rfl rfl (hb hby at_65)
  have N13 := N13 n0 N11 g_b2
  have K13 : Keep h0 h13 [] := K11.wr W13 (Or.inr sz_b2)
  have Z13 : n0 ≤ h13.size := Nat.le_trans Z0 K13.1
  have V13 : own_A Z h13 b2 k1 .byte (6 : Int32) [(nar .byte (own_f1 p0 q1 (0 : Int32))), (nar .byte (own_f1 p0 q1 (1 : Int32))), (nar .byte (own_f1 p0 q1 (2 : Int32))), (nar .byte (own_f1 p0 q1 (3 : Int32))), (nar .byte (own_f1 p0 q1 (4 : Int32))), (nar .byte (own_f1 p0 q1 (5 : Int32)))] := V13
  refine own_step (st13) ?_
  show own_Goes p.tables e below (T13.setTop (mkF m 66 #[.val (.int p0), .val (.long q1), .second, .val (.int p2), .val (.int p3), .val (.ref b2), .unset, .unset, .unset] [])) _
  obtain ⟨ys, hys⟩ : ∃ z : List Int32, z = [(nar .byte (own_f1 p0 q1 (0 : Int32))), (nar .byte (own_f1 p0 q1 (1 : Int32))), (nar .byte (own_f1 p0 q1 (2 : Int32))), (nar .byte (own_f1 p0 q1 (3 : Int32))), (nar .byte (own_f1 p0 q1 (4 : Int32))), (nar .byte (own_f1 p0 q1 (5 : Int32)))] := ⟨_, rfl⟩
  have V_ys : own_A Z h13 b2 k1 .byte (6 : Int32) ys := by rw [hys]; exact V13
  refine own_step (fun _ => XS.iloadN X13.here hx rfl (hb hby at_66) rfl) ?_
  show own_Goes p.tables e below (T13.setTop (mkF m 67 #[.val (.int p0), .val (.long q1), .second, .val (.int p2), .val (.int p3), .val (.ref b2), .unset, .unset, .unset] [(.int p2)])) _
  refine own_step (X13.ldcInt hx hown (mvT hZ (hw _ (List.mem_of_getElem? (i := 5) rfl))) (g := (mkF m 67 #[.val (.int p0), .val (.long q1), .second, .val (.int p2), .val (.int p3), .val (.ref b2), .unset, .unset, .unset] [(.int p2)])) rfl (hb hby at_67)) ?_
  show own_Goes p.tables e below (T13.setTop (mkF m 69 #[.val (.int p0), .val (.long q1), .second, .val (.int p2), .val (.int p3), .val (.ref b2), .unset, .unset, .unset] [(.int (2147483647 : Int32)), (.int p2)])) _
  refine own_step (fun _ => XS.iand X13.here hx rfl (hb hby at_69) rfl) ?_
  show own_Goes p.tables e below (T13.setTop (mkF m 70 #[.val (.int p0), .val (.long q1), .second, .val (.int p2), .val (.int p3), .val (.ref b2), .unset, .unset, .unset] [(.int (p2 &&& (2147483647 : Int32)))])) _
  refine own_step (fun _ => XS.bipush X13.here hx rfl (hb hby at_70)) ?_
  show own_Goes p.tables e below (T13.setTop (mkF m 72 #[.val (.int p0), .val (.long q1), .second, .val (.int p2), .val (.int p3), .val (.ref b2), .unset, .unset, .unset] [(.int (7 : Int32)), (.int (p2 &&& (2147483647 : Int32)))])) _
  refine own_step (fun _ => XS.irem X13.here hx rfl (hb hby at_72) rfl (by decide)) ?_
  show own_Goes p.tables e below (T13.setTop (mkF m 73 #[.val (.int p0), .val (.long q1), .second, .val (.int p2), .val (.int p3), .val (.ref b2), .unset, .unset, .unset] [(.int ((p2 &&& (2147483647 : Int32)) - (p2 &&& (2147483647 : Int32)) / (7 : Int32) * (7 : Int32)))])) _
  obtain ⟨z73, hz73⟩ : ∃ z : Int32, z = ((p2 &&& (2147483647 : Int32)) - (p2 &&& (2147483647 : Int32)) / (7 : Int32) * (7 : Int32)) := ⟨_, rfl⟩
  refine own_step (fun _ => XS.istore X13.here hx rfl (hb hby at_73) rfl (l' := #[.val (.int p0), .val (.long q1), .second, .val (.int p2), .val (.int p3), .val (.ref b2), .val (.int z73), .unset, .unset]) (by subst hz73; rfl)) ?_
  show own_Goes p.tables e below (T13.setTop (mkF m 75 #[.val (.int p0), .val (.long q1), .second, .val (.int p2), .val (.int p3), .val (.ref b2), .val (.int z73), .unset, .unset] [])) _
  refine own_step (fun _ => XS.iload X13.here hx rfl (hb hby at_75) rfl) ?_
  show own_Goes p.tables e below (T13.setTop (mkF m 77 #[.val (.int p0), .val (.long q1), .second, .val (.int p2), .val (.int p3), .val (.ref b2), .val (.int z73), .unset, .unset] [(.int z73)])) _
  refine own_step (fun _ => XS.iload X13.here hx rfl (hb hby at_77) rfl) ?_
  show own_Goes p.tables e below (T13.setTop (mkF m 79 #[.val (.int p0), .val (.long q1), .second, .val (.int p2), .val (.int p3), .val (.ref b2), .val (.int z73), .unset, .unset] [(.int p3), (.int z73)])) _
  refine own_step (X13.ldcInt hx hown (mvT hZ (hw _ (List.mem_of_getElem? (i := 5) rfl))) (g := (mkF m 79 #[.val (.int p0), .val (.long q1), .second, .val (.int p2), .val (.int p3), .val (.ref b2), .val (.int z73), .unset, .unset] [(.int p3), (.int z73)])) rfl (hb hby at_79)) ?_
  show own_Goes p.tables e below (T13.setTop (mkF m 81 #[.val (.int p0), .val (.long q1), .second, .val (.int p2), .val (.int p3), .val (.ref b2), .val (.int z73), .unset, .unset] [(.int (2147483647 : Int32)), (.int p3), (.int z73)])) _
  refine own_step (fun _ => XS.iand X13.here hx rfl (hb hby at_81) rfl) ?_
  show own_Goes p.tables e below (T13.setTop (mkF m 82 #[.val (.int p0), .val (.long q1), .second, .val (.int p2), .val (.int p3), .val (.ref b2), .val (.int z73), .unset, .unset] [(.int (p3 &&& (2147483647 : Int32))), (.int z73)])) _
  refine own_step (fun _ => XS.bipush X13.here hx rfl (hb hby at_82)) ?_
  show own_Goes p.tables e below (T13.setTop (mkF m 84 #[.val (.int p0), .val (.long q1), .second, .val (.int p2), .val (.int p3), .val (.ref b2), .val (.int z73), .unset, .unset] [(.int (7 : Int32)), (.int (p3 &&& (2147483647 : Int32))), (.int z73)])) _
  refine own_step (fun _ => XS.iload X13.here hx rfl (hb hby at_84) rfl) ?_
  show own_Goes p.tables e below (T13.setTop (mkF m 86 #[.val (.int p0), .val (.long q1), .second, .val (.int p2), .val (.int p3), .val (.ref b2), .val (.int z73), .unset, .unset] [(.int z73), (.int (7 : Int32)), (.int (p3 &&& (2147483647 : Int32))), (.int z73)])) _
  refine own_step (fun _ => XS.isub X13.here hx rfl (hb hby at_86) rfl) ?_
  show own_Goes p.tables e below (T13.setTop (mkF m 87 #[.val (.int p0), .val (.long q1), .second, .val (.int p2), .val (.int p3), .val (.ref b2), .val (.int z73), .unset, .unset] [(.int ((7 : Int32) - z73)), (.int (p3 &&& (2147483647 : Int32))), (.int z73)])) _
  refine own_step (fun _ => XS.irem X13.here hx rfl (hb hby at_87) rfl (by subst hz73; exact own_nz (own_first p2))) ?_
  show own_Goes p.tables e below (T13.setTop (mkF m 88 #[.val (.int p0), .val (.long q1), .second, .val (.int p2), .val (.int p3), .val (.ref b2), .val (.int z73), .unset, .unset] [(.int ((p3 &&& (2147483647 : Int32)) - (p3 &&& (2147483647 : Int32)) / ((7 : Int32) - z73) * ((7 : Int32) - z73))), (.int z73)])) _
  refine own_step (fun _ => XS.iadd X13.here hx rfl (hb hby at_88) rfl) ?_
  show own_Goes p.tables e below (T13.setTop (mkF m 89 #[.val (.int p0), .val (.long q1), .second, .val (.int p2), .val (.int p3), .val (.ref b2), .val (.int z73), .unset, .unset] [(.int (z73 + ((p3 &&& (2147483647 : Int32)) - (p3 &&& (2147483647 : Int32)) / ((7 : Int32) - z73) * ((7 : Int32) - z73))))])) _
  obtain ⟨z89, hz89⟩ : ∃ z : Int32, z = (z73 + ((p3 &&& (2147483647 : Int32)) - (p3 &&& (2147483647 : Int32)) / ((7 : Int32) - z73) * ((7 : Int32) - z73))) := ⟨_, rfl⟩
  refine own_step (fun _ => XS.istore X13.here hx rfl (hb hby at_89) rfl (l' := #[.val (.int p0), .val (.long q1), .second, .val (.int p2), .val (.int p3), .val (.ref b2), .val (.int z73), .val (.int z89), .unset]) (by subst hz89; rfl)) ?_
  show own_Goes p.tables e below (T13.setTop (mkF m 91 #[.val (.int p0), .val (.long q1), .second, .val (.int p2), .val (.int p3), .val (.ref b2), .val (.int z73), .val (.int z89), .unset] [])) _
  refine own_step (fun _ => XS.aload X13.here hx rfl (hb hby at_91) rfl rfl) ?_
  show own_Goes p.tables e below (T13.setTop (mkF m 93 #[.val (.int p0), .val (.long q1), .second, .val (.int p2), .val (.int p3), .val (.ref b2), .val (.int z73), .val (.int z89), .unset] [(.ref b2)])) _
  refine own_step (fun _ => XS.iload X13.here hx rfl (hb hby at_93) rfl) ?_
  show own_Goes p.tables e below (T13.setTop (mkF m 95 #[.val (.int p0), .val (.long q1), .second, .val (.int p2), .val (.int p3), .val (.ref b2), .val (.int z73), .val (.int z89), .unset] [(.int z73), (.ref b2)])) _
  refine own_step (fun _ => XS.iload X13.here hx rfl (hb hby at_95) rfl) ?_
  show own_Goes p.tables e below (T13.setTop (mkF m 97 #[.val (.int p0), .val (.long q1), .second, .val (.int p2), .val (.int p3), .val (.ref b2), .val (.int z73), .val (.int z89), .unset] [(.int z89), (.int z73), (.ref b2)])) _
  refine own_step (fun _ => XS.iconst X13.here hx rfl (hb hby at_97)) ?_
  show own_Goes p.tables e below (T13.setTop (mkF m 98 #[.val (.int p0), .val (.long q1), .second, .val (.int p2), .val (.int p3), .val (.ref b2), .val (.int z73), .val (.int z89), .unset] [(.int (2 : Int32)), (.int z89), (.int z73), (.ref b2)])) _
  obtain ⟨_, _, ⟨T14, L14, k14, n14⟩, -, X14, ⟨Lc14, hQ14, l14, y14, z14⟩, st14⟩ := Jvm.LawKit.callS X13 hx (y := (⟨"com/example/sandpiper/sandpiper/broker/RequestHeadEndPinLaw", "endsAt", "([BIII)Z"⟩ : MethodName)) hown (mvT hZ (hw _ (List.mem_of_getElem? (i := 6) rfl))) (mvT hZ (hw _ (List.mem_of_getElem? (i := 7) rfl))) (mvT hZ (hw _ (List.mem_of_getElem? (i := 3) rfl))) (mvT hZ (hw _ (List.mem_of_getElem? (i := 8) rfl))) (by decide) (backOf (W := 0) (rm2 l Z a0 hw [] b2 z73 z89 (2 : Int32) ys k1 h13 n0 Z13 V_ys (by subst hz89; subst hz73; exact own_to (own_first p2) p3) (by decide)) hZ (hw _ (List.mem_of_getElem? (i := 8) rfl)) (hw _ (List.mem_of_getElem? (i := 3) rfl)) (by decide) (by decide)) (g := (mkF m 98 #[.val (.int p0), .val (.long q1), .second, .val (.int p2), .val (.int p3), .val (.ref b2), .val (.int z73), .val (.int z89), .unset] [(.int (2 : Int32)), (.int z89), (.int z73), (.ref b2)])) rfl (by rw [hml]; rfl) (argsL := [(.ref b2), (.int z73), (.int z89), (.int (2 : Int32))]) (rest := []) (lenOf pd_0_1 rfl) rfl (by show 2 * 0 + _ ≤ _; exact Nat.le_of_eq rfl) (hb hby at_98) (fun _ _ => ⟨rfl, e13, (by decide : (0 + 1) + 0 ≤ _), (by decide : (0 + 6) + 0 ≤ _)⟩)
  dsimp only [Pt.U, Pt.locs, Pt.cells, Pt.slots] at X14 l14 y14 z14 st14 hQ14
  subst l14 y14 z14
  obtain ⟨rfl, rfl, e14⟩ := hQ14
  have X14 : Stand p l e room_1 s m #[(.int p0), (.long q1), (.int p2), (.int p3)] below meth c T14 L13 (0 + 1) (0 + 6) := own_flat X14
  refine own_step (st14) ?_
  show own_Goes p.tables e below (T14.setTop (mkF m 101 #[.val (.int p0), .val (.long q1), .second, .val (.int p2), .val (.int p3), .val (.ref b2), .val (.int z73), .val (.int z89), .unset] [(.int (own_f2 ys z73 z89 (2 : Int32)))])) _
  have J191 : ∀ (T_191 : State) (X_191 : Stand p l e room_1 s m #[(.int p0), (.long q1), (.int p2), (.int p3)] below meth c T_191 L13 (0 + 1) (0 + 6)) (e_191 : T_191.heap = h13) (v191_l8 : Int32), own_Goes p.tables e below (T_191.setTop (mkF m 191 #[.val (.int p0), .val (.long q1), .second, .val (.int p2), .val (.int p3), .val (.ref b2), .val (.int z73), .val (.int z89), .val (.int v191_l8)] [])) (own_P s (own_Ql (some (.int (own_f0_191 ys z73 z89 v191_l8))) n0) 1 6) := by
    intro T_191 X_191 e_191 v191_l8
    refine own_step (fun _ => XS.aload X_191.here hx rfl (hb hby at_191) rfl rfl) ?_
    show own_Goes p.tables e below (T_191.setTop (mkF m 193 #[.val (.int p0), .val (.long q1), .second, .val (.int p2), .val (.int p3), .val (.ref b2), .val (.int z73), .val (.int z89), .val (.int v191_l8)] [(.ref b2)])) _
    refine own_step (fun _ => XS.iload X_191.here hx rfl (hb hby at_193) rfl) ?_
    show own_Goes p.tables e below (T_191.setTop (mkF m 195 #[.val (.int p0), .val (.long q1), .second, .val (.int p2), .val (.int p3), .val (.ref b2), .val (.int z73), .val (.int z89), .val (.int v191_l8)] [(.int z73), (.ref b2)])) _
    refine own_step (fun _ => XS.iload X_191.here hx rfl (hb hby at_195) rfl) ?_
    show own_Goes p.tables e below (T_191.setTop (mkF m 197 #[.val (.int p0), .val (.long q1), .second, .val (.int p2), .val (.int p3), .val (.ref b2), .val (.int z73), .val (.int z89), .val (.int v191_l8)] [(.int z89), (.int z73), (.ref b2)])) _
    obtain ⟨_, _, ⟨T15, L15, k15, n15⟩, -, X15, ⟨Lc15, hQ15, l15, y15, z15⟩, st15⟩ := Jvm.LawKit.callS X_191 hx (y := (⟨"com/example/sandpiper/sandpiper/broker/RequestHead", "end", "([BII)I"⟩ : MethodName)) hown (mvT hZ (hw _ (List.mem_of_getElem? (i := 9) rfl))) (mvT hZ (hw _ (List.mem_of_getElem? (i := 10) rfl))) (mvT hZ (hw _ (List.mem_of_getElem? (i := 11) rfl))) (mvT hZ (hw _ (List.mem_of_getElem? (i := 12) rfl))) (by decide) (backOf (W := 0) (rm3 l Z a0 hw [] b2 z73 z89 ys k1 h13 n0 Z13 V_ys (by subst hz89; subst hz73; exact own_to (own_first p2) p3)) hZ (hw _ (List.mem_of_getElem? (i := 12) rfl)) (hw _ (List.mem_of_getElem? (i := 11) rfl)) (by decide) (by decide)) (g := (mkF m 197 #[.val (.int p0), .val (.long q1), .second, .val (.int p2), .val (.int p3), .val (.ref b2), .val (.int z73), .val (.int z89), .val (.int v191_l8)] [(.int z89), (.int z73), (.ref b2)])) rfl (by rw [hml]; rfl) (argsL := [(.ref b2), (.int z73), (.int z89)]) (rest := []) (lenOf pd_0_2 rfl) rfl (by show 2 * 0 + _ ≤ _; exact Nat.le_of_eq rfl) (hb hby at_197) (fun _ _ => ⟨rfl, e_191, (by decide : (0 + 1) + 0 ≤ _), (by decide : (0 + 6) + 0 ≤ _)⟩)
    dsimp only [Pt.U, Pt.locs, Pt.cells, Pt.slots] at X15 l15 y15 z15 st15 hQ15
    subst l15 y15 z15
    obtain ⟨rfl, rfl, e15⟩ := hQ15
    have X15 : Stand p l e room_1 s m #[(.int p0), (.long q1), (.int p2), (.int p3)] below meth c T15 L13 (0 + 1) (0 + 6) := own_flat X15
    refine own_step (st15) ?_
    show own_Goes p.tables e below (T15.setTop (mkF m 200 #[.val (.int p0), .val (.long q1), .second, .val (.int p2), .val (.int p3), .val (.ref b2), .val (.int z73), .val (.int z89), .val (.int v191_l8)] [(.int (own_f3 ys z73 z89))])) _
    refine own_step (fun _ => XS.iload X15.here hx rfl (hb hby at_200) rfl) ?_
    show own_Goes p.tables e below (T15.setTop (mkF m 202 #[.val (.int p0), .val (.long q1), .second, .val (.int p2), .val (.int p3), .val (.ref b2), .val (.int z73), .val (.int z89), .val (.int v191_l8)] [(.int v191_l8), (.int (own_f3 ys z73 z89))])) _
    by_cases hc202 : (own_f3 ys z73 z89) = v191_l8
    · refine own_step (fun _ => XS.icmpNo X15.here hx rfl (hb hby at_202) rfl (Jvm.Free.XT.ii_ne_f hc202)) ?_
      show own_Goes p.tables e below (T15.setTop (mkF m 205 #[.val (.int p0), .val (.long q1), .second, .val (.int p2), .val (.int p3), .val (.ref b2), .val (.int z73), .val (.int z89), .val (.int v191_l8)] [])) _
      refine own_step (fun _ => XS.iconst X15.here hx rfl (hb hby at_205)) ?_
      show own_Goes p.tables e below (T15.setTop (mkF m 206 #[.val (.int p0), .val (.long q1), .second, .val (.int p2), .val (.int p3), .val (.ref b2), .val (.int z73), .val (.int z89), .val (.int v191_l8)] [(.int (1 : Int32))])) _
      refine own_step (fun _ => XS.goto X15.here hx rfl (pc0 := 206) (pc' := 210) rfl (hb hby at_206) (by decide) (by decide)) ?_
      show own_Goes p.tables e below (T15.setTop (mkF m 210 #[.val (.int p0), .val (.long q1), .second, .val (.int p2), .val (.int p3), .val (.ref b2), .val (.int z73), .val (.int z89), .val (.int v191_l8)] [(.int (1 : Int32))])) _
      have hv : (own_f0_191 ys z73 z89 v191_l8) = (1 : Int32) := by exact (if_pos hc202)
      rw [hv]
      exact own_retN X15 hx (t := .boolean) Bd.returns (by simp) (hb hby at_210) (BodyLoose.notSynchronized Bd) (w := (1 : Int32)) rfl ⟨rfl, N13⟩ (by decide) (by decide)
    · refine own_step (fun _ => XS.icmpYes X15.here hx rfl (pc0 := 202) (pc' := 209) rfl (hb hby at_202) rfl (Jvm.Free.XT.ii_ne_t hc202) (by decide) (by decide)) ?_
      show own_Goes p.tables e below (T15.setTop (mkF m 209 #[.val (.int p0), .val (.long q1), .second, .val (.int p2), .val (.int p3), .val (.ref b2), .val (.int z73), .val (.int z89), .val (.int v191_l8)] [])) _
      refine own_step (fun _ => XS.iconst X15.here hx rfl (hb hby at_209)) ?_
      show own_Goes p.tables e below (T15.setTop (mkF m 210 #[.val (.int p0), .val (.long q1), .second, .val (.int p2), .val (.int p3), .val (.ref b2), .val (.int z73), .val (.int z89), .val (.int v191_l8)] [(.int (0 : Int32))])) _
      have hv : (own_f0_191 ys z73 z89 v191_l8) = (0 : Int32) := by exact (if_neg hc202)
      rw [hv]
      exact own_retN X15 hx (t := .boolean) Bd.returns (by simp) (hb hby at_210) (BodyLoose.notSynchronized Bd) (w := (0 : Int32)) rfl ⟨rfl, N13⟩ (by decide) (by decide)
  by_cases hc101 : (own_f2 ys z73 z89 (2 : Int32)) = 0
  · refine own_step (fun _ => XS.ifYes X14.here hx rfl (pc0 := 101) (pc' := 110) rfl (hb hby at_101) rfl (Jvm.Free.XT.i0_eq_t hc101) (by decide) (by decide)) ?_
    show own_Goes p.tables e below (T14.setTop (mkF m 110 #[.val (.int p0), .val (.long q1), .second, .val (.int p2), .val (.int p3), .val (.ref b2), .val (.int z73), .val (.int z89), .unset] [])) _
    refine own_step (fun _ => XS.aload X14.here hx rfl (hb hby at_110) rfl rfl) ?_
    show own_Goes p.tables e below (T14.setTop (mkF m 112 #[.val (.int p0), .val (.long q1), .second, .val (.int p2), .val (.int p3), .val (.ref b2), .val (.int z73), .val (.int z89), .unset] [(.ref b2)])) _
    refine own_step (fun _ => XS.iload X14.here hx rfl (hb hby at_112) rfl) ?_
    show own_Goes p.tables e below (T14.setTop (mkF m 114 #[.val (.int p0), .val (.long q1), .second, .val (.int p2), .val (.int p3), .val (.ref b2), .val (.int z73), .val (.int z89), .unset] [(.int z73), (.ref b2)])) _
    refine own_step (fun _ => XS.iload X14.here hx rfl (hb hby at_114) rfl) ?_
    show own_Goes p.tables e below (T14.setTop (mkF m 116 #[.val (.int p0), .val (.long q1), .second, .val (.int p2), .val (.int p3), .val (.ref b2), .val (.int z73), .val (.int z89), .unset] [(.int z89), (.int z73), (.ref b2)])) _
    refine own_step (fun _ => XS.iconst X14.here hx rfl (hb hby at_116)) ?_
    show own_Goes p.tables e below (T14.setTop (mkF m 117 #[.val (.int p0), .val (.long q1), .second, .val (.int p2), .val (.int p3), .val (.ref b2), .val (.int z73), .val (.int z89), .unset] [(.int (3 : Int32)), (.int z89), (.int z73), (.ref b2)])) _
    obtain ⟨_, _, ⟨T16, L16, k16, n16⟩, -, X16, ⟨Lc16, hQ16, l16, y16, z16⟩, st16⟩ := Jvm.LawKit.callS X14 hx (y := (⟨"com/example/sandpiper/sandpiper/broker/RequestHeadEndPinLaw", "endsAt", "([BIII)Z"⟩ : MethodName)) hown (mvT hZ (hw _ (List.mem_of_getElem? (i := 6) rfl))) (mvT hZ (hw _ (List.mem_of_getElem? (i := 7) rfl))) (mvT hZ (hw _ (List.mem_of_getElem? (i := 3) rfl))) (mvT hZ (hw _ (List.mem_of_getElem? (i := 8) rfl))) (by decide) (backOf (W := 0) (rm2 l Z a0 hw [] b2 z73 z89 (3 : Int32) ys k1 h13 n0 Z13 V_ys (by subst hz89; subst hz73; exact own_to (own_first p2) p3) (by decide)) hZ (hw _ (List.mem_of_getElem? (i := 8) rfl)) (hw _ (List.mem_of_getElem? (i := 3) rfl)) (by decide) (by decide)) (g := (mkF m 117 #[.val (.int p0), .val (.long q1), .second, .val (.int p2), .val (.int p3), .val (.ref b2), .val (.int z73), .val (.int z89), .unset] [(.int (3 : Int32)), (.int z89), (.int z73), (.ref b2)])) rfl (by rw [hml]; rfl) (argsL := [(.ref b2), (.int z73), (.int z89), (.int (3 : Int32))]) (rest := []) (lenOf pd_0_1 rfl) rfl (by show 2 * 0 + _ ≤ _; exact Nat.le_of_eq rfl) (hb hby at_117) (fun _ _ => ⟨rfl, e14, (by decide : (0 + 1) + 0 ≤ _), (by decide : (0 + 6) + 0 ≤ _)⟩)
    dsimp only [Pt.U, Pt.locs, Pt.cells, Pt.slots] at X16 l16 y16 z16 st16 hQ16
    subst l16 y16 z16
    obtain ⟨rfl, rfl, e16⟩ := hQ16
    have X16 : Stand p l e room_1 s m #[(.int p0), (.long q1), (.int p2), (.int p3)] below meth c T16 L13 (0 + 1) (0 + 6) := own_flat X16
    refine own_step (st16) ?_
    show own_Goes p.tables e below (T16.setTop (mkF m 120 #[.val (.int p0), .val (.long q1), .second, .val (.int p2), .val (.int p3), .val (.ref b2), .val (.int z73), .val (.int z89), .unset] [(.int (own_f2 ys z73 z89 (3 : Int32)))])) _
    by_cases hc120 : (own_f2 ys z73 z89 (3 : Int32)) = 0
    · refine own_step (fun _ => XS.ifYes X16.here hx rfl (pc0 := 120) (pc' := 129) rfl (hb hby at_120) rfl (Jvm.Free.XT.i0_eq_t hc120) (by decide) (by decide)) ?_
      show own_Goes p.tables e below (T16.setTop (mkF m 129 #[.val (.int p0), .val (.long q1), .second, .val (.int p2), .val (.int p3), .val (.ref b2), .val (.int z73), .val (.int z89), .unset] [])) _
      refine own_step (fun _ => XS.aload X16.here hx rfl (hb hby at_129) rfl rfl) ?_
      show own_Goes p.tables e below (T16.setTop (mkF m 131 #[.val (.int p0), .val (.long q1), .second, .val (.int p2), .val (.int p3), .val (.ref b2), .val (.int z73), .val (.int z89), .unset] [(.ref b2)])) _
      refine own_step (fun _ => XS.iload X16.here hx rfl (hb hby at_131) rfl) ?_
      show own_Goes p.tables e below (T16.setTop (mkF m 133 #[.val (.int p0), .val (.long q1), .second, .val (.int p2), .val (.int p3), .val (.ref b2), .val (.int z73), .val (.int z89), .unset] [(.int z73), (.ref b2)])) _
      refine own_step (fun _ => XS.iload X16.here hx rfl (hb hby at_133) rfl) ?_
      show own_Goes p.tables e below (T16.setTop (mkF m 135 #[.val (.int p0), .val (.long q1), .second, .val (.int p2), .val (.int p3), .val (.ref b2), .val (.int z73), .val (.int z89), .unset] [(.int z89), (.int z73), (.ref b2)])) _
      refine own_step (fun _ => XS.iconst X16.here hx rfl (hb hby at_135)) ?_
      show own_Goes p.tables e below (T16.setTop (mkF m 136 #[.val (.int p0), .val (.long q1), .second, .val (.int p2), .val (.int p3), .val (.ref b2), .val (.int z73), .val (.int z89), .unset] [(.int (4 : Int32)), (.int z89), (.int z73), (.ref b2)])) _
      obtain ⟨_, _, ⟨T17, L17, k17, n17⟩, -, X17, ⟨Lc17, hQ17, l17, y17, z17⟩, st17⟩ := Jvm.LawKit.callS X16 hx (y := (⟨"com/example/sandpiper/sandpiper/broker/RequestHeadEndPinLaw", "endsAt", "([BIII)Z"⟩ : MethodName)) hown (mvT hZ (hw _ (List.mem_of_getElem? (i := 6) rfl))) (mvT hZ (hw _ (List.mem_of_getElem? (i := 7) rfl))) (mvT hZ (hw _ (List.mem_of_getElem? (i := 3) rfl))) (mvT hZ (hw _ (List.mem_of_getElem? (i := 8) rfl))) (by decide) (backOf (W := 0) (rm2 l Z a0 hw [] b2 z73 z89 (4 : Int32) ys k1 h13 n0 Z13 V_ys (by subst hz89; subst hz73; exact own_to (own_first p2) p3) (by decide)) hZ (hw _ (List.mem_of_getElem? (i := 8) rfl)) (hw _ (List.mem_of_getElem? (i := 3) rfl)) (by decide) (by decide)) (g := (mkF m 136 #[.val (.int p0), .val (.long q1), .second, .val (.int p2), .val (.int p3), .val (.ref b2), .val (.int z73), .val (.int z89), .unset] [(.int (4 : Int32)), (.int z89), (.int z73), (.ref b2)])) rfl (by rw [hml]; rfl) (argsL := [(.ref b2), (.int z73), (.int z89), (.int (4 : Int32))]) (rest := []) (lenOf pd_0_1 rfl) rfl (by show 2 * 0 + _ ≤ _; exact Nat.le_of_eq rfl) (hb hby at_136) (fun _ _ => ⟨rfl, e16, (by decide : (0 + 1) + 0 ≤ _), (by decide : (0 + 6) + 0 ≤ _)⟩)
      dsimp only [Pt.U, Pt.locs, Pt.cells, Pt.slots] at X17 l17 y17 z17 st17 hQ17
      subst l17 y17 z17
      obtain ⟨rfl, rfl, e17⟩ := hQ17
      have X17 : Stand p l e room_1 s m #[(.int p0), (.long q1), (.int p2), (.int p3)] below meth c T17 L13 (0 + 1) (0 + 6) := own_flat X17
      refine own_step (st17) ?_
      show own_Goes p.tables e below (T17.setTop (mkF m 139 #[.val (.int p0), .val (.long q1), .second, .val (.int p2), .val (.int p3), .val (.ref b2), .val (.int z73), .val (.int z89), .unset] [(.int (own_f2 ys z73 z89 (4 : Int32)))])) _
      by_cases hc139 : (own_f2 ys z73 z89 (4 : Int32)) = 0
      · refine own_step (fun _ => XS.ifYes X17.here hx rfl (pc0 := 139) (pc' := 148) rfl (hb hby at_139) rfl (Jvm.Free.XT.i0_eq_t hc139) (by decide) (by decide)) ?_
        show own_Goes p.tables e below (T17.setTop (mkF m 148 #[.val (.int p0), .val (.long q1), .second, .val (.int p2), .val (.int p3), .val (.ref b2), .val (.int z73), .val (.int z89), .unset] [])) _
        refine own_step (fun _ => XS.aload X17.here hx rfl (hb hby at_148) rfl rfl) ?_
        show own_Goes p.tables e below (T17.setTop (mkF m 150 #[.val (.int p0), .val (.long q1), .second, .val (.int p2), .val (.int p3), .val (.ref b2), .val (.int z73), .val (.int z89), .unset] [(.ref b2)])) _
        refine own_step (fun _ => XS.iload X17.here hx rfl (hb hby at_150) rfl) ?_
        show own_Goes p.tables e below (T17.setTop (mkF m 152 #[.val (.int p0), .val (.long q1), .second, .val (.int p2), .val (.int p3), .val (.ref b2), .val (.int z73), .val (.int z89), .unset] [(.int z73), (.ref b2)])) _
        refine own_step (fun _ => XS.iload X17.here hx rfl (hb hby at_152) rfl) ?_
        show own_Goes p.tables e below (T17.setTop (mkF m 154 #[.val (.int p0), .val (.long q1), .second, .val (.int p2), .val (.int p3), .val (.ref b2), .val (.int z73), .val (.int z89), .unset] [(.int z89), (.int z73), (.ref b2)])) _
        refine own_step (fun _ => XS.iconst X17.here hx rfl (hb hby at_154)) ?_
        show own_Goes p.tables e below (T17.setTop (mkF m 155 #[.val (.int p0), .val (.long q1), .second, .val (.int p2), .val (.int p3), .val (.ref b2), .val (.int z73), .val (.int z89), .unset] [(.int (5 : Int32)), (.int z89), (.int z73), (.ref b2)])) _
        obtain ⟨_, _, ⟨T18, L18, k18, n18⟩, -, X18, ⟨Lc18, hQ18, l18, y18, z18⟩, st18⟩ := Jvm.LawKit.callS X17 hx (y := (⟨"com/example/sandpiper/sandpiper/broker/RequestHeadEndPinLaw", "endsAt", "([BIII)Z"⟩ : MethodName)) hown (mvT hZ (hw _ (List.mem_of_getElem? (i := 6) rfl))) (mvT hZ (hw _ (List.mem_of_getElem? (i := 7) rfl))) (mvT hZ (hw _ (List.mem_of_getElem? (i := 3) rfl))) (mvT hZ (hw _ (List.mem_of_getElem? (i := 8) rfl))) (by decide) (backOf (W := 0) (rm2 l Z a0 hw [] b2 z73 z89 (5 : Int32) ys k1 h13 n0 Z13 V_ys (by subst hz89; subst hz73; exact own_to (own_first p2) p3) (by decide)) hZ (hw _ (List.mem_of_getElem? (i := 8) rfl)) (hw _ (List.mem_of_getElem? (i := 3) rfl)) (by decide) (by decide)) (g := (mkF m 155 #[.val (.int p0), .val (.long q1), .second, .val (.int p2), .val (.int p3), .val (.ref b2), .val (.int z73), .val (.int z89), .unset] [(.int (5 : Int32)), (.int z89), (.int z73), (.ref b2)])) rfl (by rw [hml]; rfl) (argsL := [(.ref b2), (.int z73), (.int z89), (.int (5 : Int32))]) (rest := []) (lenOf pd_0_1 rfl) rfl (by show 2 * 0 + _ ≤ _; exact Nat.le_of_eq rfl) (hb hby at_155) (fun _ _ => ⟨rfl, e17, (by decide : (0 + 1) + 0 ≤ _), (by decide : (0 + 6) + 0 ≤ _)⟩)
        dsimp only [Pt.U, Pt.locs, Pt.cells, Pt.slots] at X18 l18 y18 z18 st18 hQ18
        subst l18 y18 z18
        obtain ⟨rfl, rfl, e18⟩ := hQ18
        have X18 : Stand p l e room_1 s m #[(.int p0), (.long q1), (.int p2), (.int p3)] below meth c T18 L13 (0 + 1) (0 + 6) := own_flat X18
        refine own_step (st18) ?_
        show own_Goes p.tables e below (T18.setTop (mkF m 158 #[.val (.int p0), .val (.long q1), .second, .val (.int p2), .val (.int p3), .val (.ref b2), .val (.int z73), .val (.int z89), .unset] [(.int (own_f2 ys z73 z89 (5 : Int32)))])) _
        by_cases hc158 : (own_f2 ys z73 z89 (5 : Int32)) = 0
        · refine own_step (fun _ => XS.ifYes X18.here hx rfl (pc0 := 158) (pc' := 167) rfl (hb hby at_158) rfl (Jvm.Free.XT.i0_eq_t hc158) (by decide) (by decide)) ?_
          show own_Goes p.tables e below (T18.setTop (mkF m 167 #[.val (.int p0), .val (.long q1), .second, .val (.int p2), .val (.int p3), .val (.ref b2), .val (.int z73), .val (.int z89), .unset] [])) _
          refine own_step (fun _ => XS.aload X18.here hx rfl (hb hby at_167) rfl rfl) ?_
          show own_Goes p.tables e below (T18.setTop (mkF m 169 #[.val (.int p0), .val (.long q1), .second, .val (.int p2), .val (.int p3), .val (.ref b2), .val (.int z73), .val (.int z89), .unset] [(.ref b2)])) _
          refine own_step (fun _ => XS.iload X18.here hx rfl (hb hby at_169) rfl) ?_
          show own_Goes p.tables e below (T18.setTop (mkF m 171 #[.val (.int p0), .val (.long q1), .second, .val (.int p2), .val (.int p3), .val (.ref b2), .val (.int z73), .val (.int z89), .unset] [(.int z73), (.ref b2)])) _
          refine own_step (fun _ => XS.iload X18.here hx rfl (hb hby at_171) rfl) ?_
          show own_Goes p.tables e below (T18.setTop (mkF m 173 #[.val (.int p0), .val (.long q1), .second, .val (.int p2), .val (.int p3), .val (.ref b2), .val (.int z73), .val (.int z89), .unset] [(.int z89), (.int z73), (.ref b2)])) _
          refine own_step (fun _ => XS.bipush X18.here hx rfl (hb hby at_173)) ?_
          show own_Goes p.tables e below (T18.setTop (mkF m 175 #[.val (.int p0), .val (.long q1), .second, .val (.int p2), .val (.int p3), .val (.ref b2), .val (.int z73), .val (.int z89), .unset] [(.int (6 : Int32)), (.int z89), (.int z73), (.ref b2)])) _
          obtain ⟨_, _, ⟨T19, L19, k19, n19⟩, -, X19, ⟨Lc19, hQ19, l19, y19, z19⟩, st19⟩ := Jvm.LawKit.callS X18 hx (y := (⟨"com/example/sandpiper/sandpiper/broker/RequestHeadEndPinLaw", "endsAt", "([BIII)Z"⟩ : MethodName)) hown (mvT hZ (hw _ (List.mem_of_getElem? (i := 6) rfl))) (mvT hZ (hw _ (List.mem_of_getElem? (i := 7) rfl))) (mvT hZ (hw _ (List.mem_of_getElem? (i := 3) rfl))) (mvT hZ (hw _ (List.mem_of_getElem? (i := 8) rfl))) (by decide) (backOf (W := 0) (rm2 l Z a0 hw [] b2 z73 z89 (6 : Int32) ys k1 h13 n0 Z13 V_ys (by subst hz89; subst hz73; exact own_to (own_first p2) p3) (by decide)) hZ (hw _ (List.mem_of_getElem? (i := 8) rfl)) (hw _ (List.mem_of_getElem? (i := 3) rfl)) (by decide) (by decide)) (g := (mkF m 175 #[.val (.int p0), .val (.long q1), .second, .val (.int p2), .val (.int p3), .val (.ref b2), .val (.int z73), .val (.int z89), .unset] [(.int (6 : Int32)), (.int z89), (.int z73), (.ref b2)])) rfl (by rw [hml]; rfl) (argsL := [(.ref b2), (.int z73), (.int z89), (.int (6 : Int32))]) (rest := []) (lenOf pd_0_1 rfl) rfl (by show 2 * 0 + _ ≤ _; exact Nat.le_of_eq rfl) (hb hby at_175) (fun _ _ => ⟨rfl, e18, (by decide : (0 + 1) + 0 ≤ _), (by decide : (0 + 6) + 0 ≤ _)⟩)
          dsimp only [Pt.U, Pt.locs, Pt.cells, Pt.slots] at X19 l19 y19 z19 st19 hQ19
          subst l19 y19 z19
          obtain ⟨rfl, rfl, e19⟩ := hQ19
          have X19 : Stand p l e room_1 s m #[(.int p0), (.long q1), (.int p2), (.int p3)] below meth c T19 L13 (0 + 1) (0 + 6) := own_flat X19
          refine own_step (st19) ?_
          show own_Goes p.tables e below (T19.setTop (mkF m 178 #[.val (.int p0), .val (.long q1), .second, .val (.int p2), .val (.int p3), .val (.ref b2), .val (.int z73), .val (.int z89), .unset] [(.int (own_f2 ys z73 z89 (6 : Int32)))])) _
          by_cases hc178 : (own_f2 ys z73 z89 (6 : Int32)) = 0
          · refine own_step (fun _ => XS.ifYes X19.here hx rfl (pc0 := 178) (pc' := 188) rfl (hb hby at_178) rfl (Jvm.Free.XT.i0_eq_t hc178) (by decide) (by decide)) ?_
            show own_Goes p.tables e below (T19.setTop (mkF m 188 #[.val (.int p0), .val (.long q1), .second, .val (.int p2), .val (.int p3), .val (.ref b2), .val (.int z73), .val (.int z89), .unset] [])) _
            refine own_step (fun _ => XS.iconst X19.here hx rfl (hb hby at_188)) ?_
            show own_Goes p.tables e below (T19.setTop (mkF m 189 #[.val (.int p0), .val (.long q1), .second, .val (.int p2), .val (.int p3), .val (.ref b2), .val (.int z73), .val (.int z89), .unset] [(.int (-1 : Int32))])) _
            refine own_step (fun _ => XS.istore X19.here hx rfl (hb hby at_189) rfl (l' := #[.val (.int p0), .val (.long q1), .second, .val (.int p2), .val (.int p3), .val (.ref b2), .val (.int z73), .val (.int z89), .val (.int (-1 : Int32))]) rfl) ?_
            show own_Goes p.tables e below (T19.setTop (mkF m 191 #[.val (.int p0), .val (.long q1), .second, .val (.int p2), .val (.int p3), .val (.ref b2), .val (.int z73), .val (.int z89), .val (.int (-1 : Int32))] [])) _
            have hv : (own_f0 p0 q1 p2 p3) = (own_f0_191 ys z73 z89 (-1 : Int32)) := by subst hz89; subst hz73; subst hys; exact (((((if_pos hc101)).trans (if_pos hc120)).trans (if_pos hc139)).trans (if_pos hc158)).trans (if_pos hc178)
            rw [hv]
            exact J191 T19 X19 e19 (-1 : Int32)
          · refine own_step (fun _ => XS.ifNo X19.here hx rfl (hb hby at_178) rfl (Jvm.Free.XT.i0_eq_f hc178)) ?_
            show own_Goes p.tables e below (T19.setTop (mkF m 181 #[.val (.int p0), .val (.long q1), .second, .val (.int p2), .val (.int p3), .val (.ref b2), .val (.int z73), .val (.int z89), .unset] [])) _
            refine own_step (fun _ => XS.bipush X19.here hx rfl (hb hby at_181)) ?_
            show own_Goes p.tables e below (T19.setTop (mkF m 183 #[.val (.int p0), .val (.long q1), .second, .val (.int p2), .val (.int p3), .val (.ref b2), .val (.int z73), .val (.int z89), .unset] [(.int (6 : Int32))])) _
            refine own_step (fun _ => XS.istore X19.here hx rfl (hb hby at_183) rfl (l' := #[.val (.int p0), .val (.long q1), .second, .val (.int p2), .val (.int p3), .val (.ref b2), .val (.int z73), .val (.int z89), .val (.int (6 : Int32))]) rfl) ?_
            show own_Goes p.tables e below (T19.setTop (mkF m 185 #[.val (.int p0), .val (.long q1), .second, .val (.int p2), .val (.int p3), .val (.ref b2), .val (.int z73), .val (.int z89), .val (.int (6 : Int32))] [])) _
            refine own_step (fun _ => XS.goto X19.here hx rfl (pc0 := 185) (pc' := 191) rfl (hb hby at_185) (by decide) (by decide)) ?_
            show own_Goes p.tables e below (T19.setTop (mkF m 191 #[.val (.int p0), .val (.long q1), .second, .val (.int p2), .val (.int p3), .val (.ref b2), .val (.int z73), .val (.int z89), .val (.int (6 : Int32))] [])) _
            have hv : (own_f0 p0 q1 p2 p3) = (own_f0_191 ys z73 z89 (6 : Int32)) := by subst hz89; subst hz73; subst hys; exact (((((if_pos hc101)).trans (if_pos hc120)).trans (if_pos hc139)).trans (if_pos hc158)).trans (if_neg hc178)
            rw [hv]
            exact J191 T19 X19 e19 (6 : Int32)
        · refine own_step (fun _ => XS.ifNo X18.here hx rfl (hb hby at_158) rfl (Jvm.Free.XT.i0_eq_f hc158)) ?_
          show own_Goes p.tables e below (T18.setTop (mkF m 161 #[.val (.int p0), .val (.long q1), .second, .val (.int p2), .val (.int p3), .val (.ref b2), .val (.int z73), .val (.int z89), .unset] [])) _
          refine own_step (fun _ => XS.iconst X18.here hx rfl (hb hby at_161)) ?_
          show own_Goes p.tables e below (T18.setTop (mkF m 162 #[.val (.int p0), .val (.long q1), .second, .val (.int p2), .val (.int p3), .val (.ref b2), .val (.int z73), .val (.int z89), .unset] [(.int (5 : Int32))])) _
          refine own_step (fun _ => XS.istore X18.here hx rfl (hb hby at_162) rfl (l' := #[.val (.int p0), .val (.long q1), .second, .val (.int p2), .val (.int p3), .val (.ref b2), .val (.int z73), .val (.int z89), .val (.int (5 : Int32))]) rfl) ?_
          show own_Goes p.tables e below (T18.setTop (mkF m 164 #[.val (.int p0), .val (.long q1), .second, .val (.int p2), .val (.int p3), .val (.ref b2), .val (.int z73), .val (.int z89), .val (.int (5 : Int32))] [])) _
          refine own_step (fun _ => XS.goto X18.here hx rfl (pc0 := 164) (pc' := 191) rfl (hb hby at_164) (by decide) (by decide)) ?_
          show own_Goes p.tables e below (T18.setTop (mkF m 191 #[.val (.int p0), .val (.long q1), .second, .val (.int p2), .val (.int p3), .val (.ref b2), .val (.int z73), .val (.int z89), .val (.int (5 : Int32))] [])) _
          have hv : (own_f0 p0 q1 p2 p3) = (own_f0_191 ys z73 z89 (5 : Int32)) := by subst hz89; subst hz73; subst hys; exact ((((if_pos hc101)).trans (if_pos hc120)).trans (if_pos hc139)).trans (if_neg hc158)
          rw [hv]
          exact J191 T18 X18 e18 (5 : Int32)
      · refine own_step (fun _ => XS.ifNo X17.here hx rfl (hb hby at_139) rfl (Jvm.Free.XT.i0_eq_f hc139)) ?_
        show own_Goes p.tables e below (T17.setTop (mkF m 142 #[.val (.int p0), .val (.long q1), .second, .val (.int p2), .val (.int p3), .val (.ref b2), .val (.int z73), .val (.int z89), .unset] [])) _
        refine own_step (fun _ => XS.iconst X17.here hx rfl (hb hby at_142)) ?_
        show own_Goes p.tables e below (T17.setTop (mkF m 143 #[.val (.int p0), .val (.long q1), .second, .val (.int p2), .val (.int p3), .val (.ref b2), .val (.int z73), .val (.int z89), .unset] [(.int (4 : Int32))])) _
        refine own_step (fun _ => XS.istore X17.here hx rfl (hb hby at_143) rfl (l' := #[.val (.int p0), .val (.long q1), .second, .val (.int p2), .val (.int p3), .val (.ref b2), .val (.int z73), .val (.int z89), .val (.int (4 : Int32))]) rfl) ?_
        show own_Goes p.tables e below (T17.setTop (mkF m 145 #[.val (.int p0), .val (.long q1), .second, .val (.int p2), .val (.int p3), .val (.ref b2), .val (.int z73), .val (.int z89), .val (.int (4 : Int32))] [])) _
        refine own_step (fun _ => XS.goto X17.here hx rfl (pc0 := 145) (pc' := 191) rfl (hb hby at_145) (by decide) (by decide)) ?_
        show own_Goes p.tables e below (T17.setTop (mkF m 191 #[.val (.int p0), .val (.long q1), .second, .val (.int p2), .val (.int p3), .val (.ref b2), .val (.int z73), .val (.int z89), .val (.int (4 : Int32))] [])) _
        have hv : (own_f0 p0 q1 p2 p3) = (own_f0_191 ys z73 z89 (4 : Int32)) := by subst hz89; subst hz73; subst hys; exact (((if_pos hc101)).trans (if_pos hc120)).trans (if_neg hc139)
        rw [hv]
        exact J191 T17 X17 e17 (4 : Int32)
    · refine own_step (fun _ => XS.ifNo X16.here hx rfl (hb hby at_120) rfl (Jvm.Free.XT.i0_eq_f hc120)) ?_
      show own_Goes p.tables e below (T16.setTop (mkF m 123 #[.val (.int p0), .val (.long q1), .second, .val (.int p2), .val (.int p3), .val (.ref b2), .val (.int z73), .val (.int z89), .unset] [])) _
      refine own_step (fun _ => XS.iconst X16.here hx rfl (hb hby at_123)) ?_
      show own_Goes p.tables e below (T16.setTop (mkF m 124 #[.val (.int p0), .val (.long q1), .second, .val (.int p2), .val (.int p3), .val (.ref b2), .val (.int z73), .val (.int z89), .unset] [(.int (3 : Int32))])) _
      refine own_step (fun _ => XS.istore X16.here hx rfl (hb hby at_124) rfl (l' := #[.val (.int p0), .val (.long q1), .second, .val (.int p2), .val (.int p3), .val (.ref b2), .val (.int z73), .val (.int z89), .val (.int (3 : Int32))]) rfl) ?_
      show own_Goes p.tables e below (T16.setTop (mkF m 126 #[.val (.int p0), .val (.long q1), .second, .val (.int p2), .val (.int p3), .val (.ref b2), .val (.int z73), .val (.int z89), .val (.int (3 : Int32))] [])) _
      refine own_step (fun _ => XS.goto X16.here hx rfl (pc0 := 126) (pc' := 191) rfl (hb hby at_126) (by decide) (by decide)) ?_
      show own_Goes p.tables e below (T16.setTop (mkF m 191 #[.val (.int p0), .val (.long q1), .second, .val (.int p2), .val (.int p3), .val (.ref b2), .val (.int z73), .val (.int z89), .val (.int (3 : Int32))] [])) _
      have hv : (own_f0 p0 q1 p2 p3) = (own_f0_191 ys z73 z89 (3 : Int32)) := by subst hz89; subst hz73; subst hys; exact ((if_pos hc101)).trans (if_neg hc120)
      rw [hv]
      exact J191 T16 X16 e16 (3 : Int32)
  · refine own_step (fun _ => XS.ifNo X14.here hx rfl (hb hby at_101) rfl (Jvm.Free.XT.i0_eq_f hc101)) ?_
    show own_Goes p.tables e below (T14.setTop (mkF m 104 #[.val (.int p0), .val (.long q1), .second, .val (.int p2), .val (.int p3), .val (.ref b2), .val (.int z73), .val (.int z89), .unset] [])) _
    refine own_step (fun _ => XS.iconst X14.here hx rfl (hb hby at_104)) ?_
    show own_Goes p.tables e below (T14.setTop (mkF m 105 #[.val (.int p0), .val (.long q1), .second, .val (.int p2), .val (.int p3), .val (.ref b2), .val (.int z73), .val (.int z89), .unset] [(.int (2 : Int32))])) _
    refine own_step (fun _ => XS.istore X14.here hx rfl (hb hby at_105) rfl (l' := #[.val (.int p0), .val (.long q1), .second, .val (.int p2), .val (.int p3), .val (.ref b2), .val (.int z73), .val (.int z89), .val (.int (2 : Int32))]) rfl) ?_
    show own_Goes p.tables e below (T14.setTop (mkF m 107 #[.val (.int p0), .val (.long q1), .second, .val (.int p2), .val (.int p3), .val (.ref b2), .val (.int z73), .val (.int z89), .val (.int (2 : Int32))] [])) _
    refine own_step (fun _ => XS.goto X14.here hx rfl (pc0 := 107) (pc' := 191) rfl (hb hby at_107) (by decide) (by decide)) ?_
    show own_Goes p.tables e below (T14.setTop (mkF m 191 #[.val (.int p0), .val (.long q1), .second, .val (.int p2), .val (.int p3), .val (.ref b2), .val (.int z73), .val (.int z89), .val (.int (2 : Int32))] [])) _
    have hv : (own_f0 p0 q1 p2 p3) = (own_f0_191 ys z73 z89 (2 : Int32)) := by subst hz89; subst hz73; subst hys; exact (if_neg hc101)
    rw [hv]
    exact J191 T14 X14 e14 (2 : Int32)
/-- what the two bodies look at in a byte -/
def own_cls (y : Int32) : Int32 := if y = 10 then 10 else if y = 13 then 13 else 0
theorem own_cls10 (y : Int32) : (own_cls y = 10) = (y = 10) := by
  unfold own_cls
  by_cases h : y = 10
  · rw [if_pos h]; simp [h]
  · rw [if_neg h]
    by_cases h2 : y = 13
    · rw [if_pos h2]; simp [h2]
    · rw [if_neg h2]; simp [h]
theorem own_cls13 (y : Int32) : (own_cls y = 13) = (y = 13) := by
  unfold own_cls
  by_cases h : y = 10
  · rw [if_pos h]; simp [h]
  · rw [if_neg h]
    by_cases h2 : y = 13
    · rw [if_pos h2]; simp [h2]
    · rw [if_neg h2]; simp [h2]
theorem own_getD (ys : List Int32) (k : Nat) : (ys.map own_cls).getD k 0 = own_cls (ys.getD k 0) := by
  simp only [List.getD_eq_getElem?_getD, List.getElem?_map]
  cases ys[k]? <;> rfl
theorem own_f2_c (ys : List Int32) (f t r : Int32) : own_f2 (ys.map own_cls) f t r = own_f2 ys f t r := by
  simp only [own_f2, own_getD, own_cls10, own_cls13]
theorem own_f3_2_c (ys : List Int32) (t : Int32) (fuel : Nat) : ∀ i, own_f3_2 (ys.map own_cls) t fuel i = own_f3_2 ys t fuel i := by
  induction fuel with
  | zero => intro i; rfl
  | succ fuel ih => intro i; simp only [own_f3_2, own_getD, own_cls10, own_cls13, ih]
/-- the law's answer, of the bytes, from and to -/
def own_pick (x2 x3 x4 x5 x6 r : Int32) : Int32 :=
  if x2 = 0 then if x3 = 0 then if x4 = 0 then if x5 = 0 then if x6 = 0 then (if r = -1 then 1 else 0) else (if r = 6 then 1 else 0) else (if r = 5 then 1 else 0) else (if r = 4 then 1 else 0) else (if r = 3 then 1 else 0) else (if r = 2 then 1 else 0)
def own_ans (ys : List Int32) (f t : Int32) : Int32 := own_pick (own_f2 ys f t 2) (own_f2 ys f t 3) (own_f2 ys f t 4) (own_f2 ys f t 5) (own_f2 ys f t 6) (own_f3 ys f t)
theorem own_ans_c (ys : List Int32) (f t : Int32) : own_ans (ys.map own_cls) f t = own_ans ys f t := by
  simp only [own_ans, own_f3, own_f2_c, own_f3_2_c]
def own_rep (k : Fin 3) : Int32 := if k = 0 then 10 else if k = 1 then 13 else 0
theorem own_cls_rep (y : Int32) : ∃ k : Fin 3, own_cls y = own_rep k := by
  unfold own_cls
  by_cases h : y = 10
  · exact ⟨0, by rw [if_pos h]; rfl⟩
  · by_cases h2 : y = 13
    · exact ⟨1, by rw [if_neg h, if_pos h2]; rfl⟩
    · exact ⟨2, by rw [if_neg h, if_neg h2]; rfl⟩
theorem own_all : ∀ (f t : Fin 7), f.val ≤ t.val → ∀ a b c d e g : Fin 3, own_ans [own_rep a, own_rep b, own_rep c, own_rep d, own_rep e, own_rep g] (Int32.ofNat f.val) (Int32.ofNat t.val) = 1 := by decide +kernel
theorem own_small {x : Int32} (h : 0 ≤ x.toInt ∧ x.toInt ≤ 6) : ∃ k : Fin 7, x = Int32.ofNat k.val ∧ (k.val : Int) = x.toInt := by
  refine ⟨⟨x.toInt.toNat, by omega⟩, ?_, by show ((x.toInt.toNat : Nat) : Int) = _; omega⟩
  apply Int32.toInt_inj.mp
  show x.toInt = (Int32.ofNat x.toInt.toNat).toInt
  rw [Int32.toInt_ofNat_of_lt (by omega)]
  omega
theorem own_done (y0 y1 y2 y3 y4 y5 f t : Int32) (h : own_ft f t) : own_ans [y0, y1, y2, y3, y4, y5] f t = 1 := by
  obtain ⟨h1, h2, h3⟩ := h
  obtain ⟨kf, ef, vf⟩ := own_small (x := f) (by omega)
  obtain ⟨kt, et, vt⟩ := own_small (x := t) (by omega)
  rw [← own_ans_c]
  obtain ⟨k0, e0⟩ := own_cls_rep y0
  obtain ⟨k1, e1⟩ := own_cls_rep y1
  obtain ⟨k2, e2⟩ := own_cls_rep y2
  obtain ⟨k3, e3⟩ := own_cls_rep y3
  obtain ⟨k4, e4⟩ := own_cls_rep y4
  obtain ⟨k5, e5⟩ := own_cls_rep y5
  simp only [List.map_cons, List.map_nil, e0, e1, e2, e3, e4, e5]
  rw [ef, et]
  exact own_all kf kt (by omega) k0 k1 k2 k3 k4 k5
theorem own_law (p0 : Int32) (q1 : Int64) (p2 : Int32) (p3 : Int32) : own_f0 p0 q1 p2 p3 = 1 :=
  own_done _ _ _ _ _ _ _ _ (own_to (own_first p2) p3)
set_option maxRecDepth 65536 in
set_option maxHeartbeats 40000000 in
theorem comes_1 {Post : Tables → Env → Array Value → State → Outcome → State → Prop} (hpost : ∀ tb e args s v u, (limb_1_1.after args s (.returned v) u = true ∧ limb_1_2.after args s (.returned v) u = true ∧ True) → FrameEnd s (.returned v) u (Jvm.fieldLocs frame_1_writes args s ++ Jvm.arrayLocs frame_1_arrays args s ++ Jvm.staticLocs frame_1_statics s) 16 128 → Post tb e args s (.returned v) u) :
    ArmFor flags0 classFile x code maxLocals ret World_1 tables_1 room_1 Calls_1 rest_1 Pre_1 Post := by
  intro l hfl _ _ p e ha hc hk s m args below hf hA hF happ hP
  obtain ⟨hcalls, hrest, hpre⟩ := hP
  obtain ⟨-, -, -, hnamed, -, -, -, hat⟩ := (Spec.applies_iff hf).mp happ
  obtain ⟨hg, hn⟩ := and_e (Cond.before_iff.mp (show (Jvm.Cond.and given_1 narrow_1).before args s = true from hpre))
  obtain ⟨g1, g2⟩ := and_e hg
  obtain ⟨g3, g4⟩ := and_e g2
  obtain ⟨g5, g6⟩ := and_e g4
  obtain ⟨g7, g8⟩ := and_e g6
  obtain ⟨w0, w1, w2, w3, rfl⟩ : ∃ w0 w1 w2 w3 : Value, args = #[w0, w1, w2, w3] := by
    have hs : args.size = 4 := by simpa [Cond.value, given_1] using g1
    obtain ⟨L⟩ := args
    match L, hs with
    | [w0, w1, w2, w3], _ => exact ⟨w0, w1, w2, w3, rfl⟩
  have hw := fun d (hd : d ∈ tables_1) => atoms_spec (ws := Jvm.Cond.code x code maxLocals ret :: tables_1) hat d (List.mem_cons_of_mem _ hd)
  obtain ⟨i0, ei0⟩ := is_v g3
  obtain rfl : w0 = (.int i0) := Option.some.inj ei0
  obtain ⟨i1, ei1⟩ := isL_v g5
  obtain rfl : w1 = (.long i1) := Option.some.inj ei1
  obtain ⟨i2, ei2⟩ := is_v g7
  obtain rfl : w2 = (.int i2) := Option.some.inj ei2
  obtain ⟨i3, ei3⟩ := is_v g8
  obtain rfl : w3 = (.int i3) := Option.some.inj ei3
  have hrm := rm0 l s _ hw tables_1 i0 i1 i2 i3 s.heap s.heap.size (Nat.le_refl _)
  rw [own_law i0 i1 i2 i3] at hrm
  obtain ⟨n, o, h1, h2, h3, _, L, rfl, ⟨rfl, N⟩, hq⟩ := hrm p e ha hc hk s m _ below hf ((Spec.applies_iff_loose hf).mp happ).1 ⟨rfl, State.Warmed39.refl s, rfl⟩ trivial
  refine ⟨n, _, h1, h2, h3, hpost _ _ _ _ _ _ ⟨Cond.after_iff.mpr rfl, Cond.after_iff.mpr (eq_i res_at (Term.int_eval (1)) rfl), trivial⟩ ⟨hq.1, hq.2.1, (hq.2.2.sift fun y hy => Or.inr (N y hy)).mono (by decide) (by decide)⟩⟩
theorem main_1_1 : Claimed_1_1 := comes_1 fun _ _ _ _ _ _ h hF => ⟨h.1, hF⟩
theorem main_1_2 : Claimed_1_2 := comes_1 fun _ _ _ _ _ _ h hF => ⟨h.2.1, hF⟩
end Jvm.Pilot.@@N@@
namespace Jvm.Pilot.@@N@@
open Jvm Jvm.ClassFile Sem Op Lib Jvm.Free Jvm.Stand Jvm.Pilot.@@N@@.Jvm.D
/-! MADE BY PROGRAM (witnessworld.py) out of the Statement's table words and the real class files: 10 classes; the members and pool entries that the words name. The judged class is class 1, her method 3. -/
namespace start1
open Jvm.ClassFile
def u (s : String) : CpInfo := .utf8 (stringToUtf16 s)
/-- a pool by its gaps: so many unusable entries, then the entry; so many at the end -/
def gap : Nat → List CpInfo → List CpInfo
  | 0, r => r
  | n + 1, r => .unusable :: gap n r
def poolList (es : List (Nat × CpInfo)) (last : Nat) : List CpInfo := es.foldr (fun e r => gap e.1 (e.2 :: r)) (gap last [])
def pool (es : List (Nat × CpInfo)) (last : Nat) : Array CpInfo := ⟨poolList es last⟩
def fileOf (pool : Array CpInfo) (this : Nat) (attrs : Array Attribute := #[]) (ms : Array MethodInfo := #[]) (fl : Nat := 33) (sup : Nat := 0) (ifs : Array Nat := #[]) (fds : Array FieldInfo := #[]) : ClassFile where
  minorVersion := 0
  majorVersion := 65
  constantPool := pool
  accessFlags := fl
  thisClass := this
  superClass := sup
  interfaces := ifs
  fields := fds
  methods := ms
  attributes := attrs
def plain (name : String) (sup : Option ClassId) : Class where
  name := name
  kind := .ordinary
  loader := none
  accessFlags := 33
  super := sup
  interfaces := #[]
  cf := none
  fields := #[]
  methods := #[]
  instanceTypes := #[]
  staticTypes := #[]
  resolved := #[]
  callSites := []
  init := .initialized
  statics := none
  mirror := none

def pool0 : Array CpInfo := pool [(5, u "<init>"), (0, u "()V"), (1, .class_ 10), (1, u "java/lang/Object")] 113

def k0m0 : Method := { name := "<init>", desc := "()V", sig := { parameters := [], returnType := none }, accessFlags := 1, code := none }
/-- java/lang/Object -/
def k0 : Class := { plain "java/lang/Object" none with
  accessFlags := 33
  interfaces := #[]
  cf := some (fileOf pool0 8 #[] #[{ accessFlags := 1, nameIndex := 5, descriptorIndex := 6, attributes := #[] }] 33 0 #[] #[])
  fields := #[]
  methods := #[k0m0]
  instanceTypes := #[]
  staticTypes := #[]
  resolved := Array.replicate 124 none
  statics := none }

def pool1 : Array CpInfo := pool [(2, .class_ 4), (1, u "java/lang/Object"), (0, u "<init>"), (0, u "()V"), (0, .methodref 8 9), (0, .class_ 10), (0, .nameAndType 11 12), (0, u "com/example/sandpiper/sandpiper/broker/RequestHeadEndPinLaw"), (0, u "pick"), (0, u "(IJI)B"), (0, .integer 2147483647), (0, .methodref 8 15), (0, .nameAndType 16 17), (0, u "endsAt"), (0, u "([BIII)Z"), (0, .methodref 19 20), (0, .class_ 21), (0, .nameAndType 22 23), (0, u "com/example/sandpiper/sandpiper/broker/RequestHead"), (0, u "end"), (0, u "([BII)I"), (3, u "law"), (0, u "(IJII)Z")] 4

def k1m0 : Method := { name := "<init>", desc := "()V", sig := { parameters := [], returnType := none }, accessFlags := 1, code := none }
def k1c1 : Code := { maxStack := 4, maxLocals := 5, code := method_2_code, exceptionTable := #[], attributes := #[] }
def k1m1 : Method := { name := "pick", desc := "(IJI)B", sig := { parameters := [.int, .long, .int], returnType := some .byte }, accessFlags := 10, code := some k1c1 }
def k1c2 : Code := { maxStack := 3, maxLocals := 4, code := method_3_code, exceptionTable := #[], attributes := #[] }
def k1m2 : Method := { name := "endsAt", desc := "([BIII)Z", sig := { parameters := [(.array .byte), .int, .int, .int], returnType := some .boolean }, accessFlags := 10, code := some k1c2 }
def k1c3 : Code := { maxStack := 6, maxLocals := 9, code := code, exceptionTable := #[], attributes := #[] }
def k1m3 : Method := { name := "law", desc := "(IJII)Z", sig := { parameters := [.int, .long, .int, .int], returnType := some .boolean }, accessFlags := 9, code := some k1c3 }
/-- com/example/sandpiper/sandpiper/broker/RequestHeadEndPinLaw -/
def k1 : Class := { plain "com/example/sandpiper/sandpiper/broker/RequestHeadEndPinLaw" (some 0) with
  accessFlags := 49
  interfaces := #[]
  cf := some (fileOf pool1 8 #[] #[{ accessFlags := 1, nameIndex := 5, descriptorIndex := 6, attributes := #[] }, { accessFlags := 10, nameIndex := 11, descriptorIndex := 12, attributes := #[] }, { accessFlags := 10, nameIndex := 16, descriptorIndex := 17, attributes := #[] }, { accessFlags := 9, nameIndex := 27, descriptorIndex := 28, attributes := #[] }] 49 2 #[] #[])
  fields := #[]
  methods := #[k1m0, k1m1, k1m2, k1m3]
  instanceTypes := #[]
  staticTypes := #[]
  resolved := Array.replicate 33 none
  statics := none }

def pool2 : Array CpInfo := pool [(2, .class_ 4), (1, u "java/lang/Object"), (0, u "<init>"), (0, u "()V"), (0, .class_ 8), (0, u "java/lang/Record")] 13

def k2m0 : Method := { name := "<init>", desc := "()V", sig := { parameters := [], returnType := none }, accessFlags := 4, code := none }
/-- java/lang/Record -/
def k2 : Class := { plain "java/lang/Record" (some 0) with
  accessFlags := 1057
  interfaces := #[]
  cf := some (fileOf pool2 7 #[] #[{ accessFlags := 4, nameIndex := 5, descriptorIndex := 6, attributes := #[] }] 1057 2 #[] #[])
  fields := #[]
  methods := #[k2m0]
  instanceTypes := #[]
  staticTypes := #[]
  resolved := Array.replicate 22 none
  statics := none }

def pool3 : Array CpInfo := pool [(2, .class_ 4), (1, u "java/lang/Record"), (3, .class_ 10), (1, u "com/example/sandpiper/sandpiper/broker/RequestHead"), (0, u "method"), (0, u "Ljava/lang/String;"), (2, u "target"), (2, u "http11"), (0, u "Z"), (2, u "contentLength"), (0, u "J"), (2, u "chunked"), (2, u "close"), (2, u "expectContinue"), (0, .class_ 34), (0, u "com/example/sandpiper/sandpiper/broker/RequestHead$Malformed"), (14, u "([BII)I"), (40, .class_ 91), (0, u "com/example/sandpiper/sandpiper/broker/RequestHead$Fields"), (50, u "NO_LENGTH"), (4, u "end")] 48

def k3c0 : Code := { maxStack := 3, maxLocals := 4, code := prog_19_method_2_code, exceptionTable := #[], attributes := #[] }
def k3m0 : Method := { name := "end", desc := "([BII)I", sig := { parameters := [(.array .byte), .int, .int], returnType := some .int }, accessFlags := 8, code := some k3c0 }
/-- com/example/sandpiper/sandpiper/broker/RequestHead -/
def k3 : Class := { plain "com/example/sandpiper/sandpiper/broker/RequestHead" (some 2) with
  accessFlags := 48
  interfaces := #[]
  cf := some (fileOf pool3 8 #[.nestMembers #[90, 33]] #[{ accessFlags := 8, nameIndex := 147, descriptorIndex := 49, attributes := #[] }] 48 2 #[] #[{ accessFlags := 18, nameIndex := 11, descriptorIndex := 12, attributes := #[] }, { accessFlags := 18, nameIndex := 15, descriptorIndex := 12, attributes := #[] }, { accessFlags := 18, nameIndex := 18, descriptorIndex := 19, attributes := #[] }, { accessFlags := 18, nameIndex := 22, descriptorIndex := 23, attributes := #[] }, { accessFlags := 18, nameIndex := 26, descriptorIndex := 19, attributes := #[] }, { accessFlags := 18, nameIndex := 29, descriptorIndex := 19, attributes := #[] }, { accessFlags := 18, nameIndex := 32, descriptorIndex := 19, attributes := #[] }, { accessFlags := 24, nameIndex := 142, descriptorIndex := 23, attributes := #[] }])
  fields := #[{ name := "method", type := (.object "java/lang/String"), accessFlags := 18, slot := 0, constantValue := 0 }, { name := "target", type := (.object "java/lang/String"), accessFlags := 18, slot := 1, constantValue := 0 }, { name := "http11", type := .boolean, accessFlags := 18, slot := 2, constantValue := 0 }, { name := "contentLength", type := .long, accessFlags := 18, slot := 3, constantValue := 0 }, { name := "chunked", type := .boolean, accessFlags := 18, slot := 4, constantValue := 0 }, { name := "close", type := .boolean, accessFlags := 18, slot := 5, constantValue := 0 }, { name := "expectContinue", type := .boolean, accessFlags := 18, slot := 6, constantValue := 0 }, { name := "NO_LENGTH", type := .long, accessFlags := 24, slot := 0, constantValue := 0 }]
  methods := #[k3m0]
  instanceTypes := #[(.object "java/lang/String"), (.object "java/lang/String"), .boolean, .long, .boolean, .boolean, .boolean]
  staticTypes := #[.long]
  resolved := Array.replicate 196 none
  statics := none }

def pool4 : Array CpInfo := pool [(1, u "java/lang/Cloneable"), (0, .class_ 1), (0, u "java/lang/Object"), (0, .class_ 3)] 3

/-- java/lang/Cloneable -/
def k4 : Class := { plain "java/lang/Cloneable" (some 0) with
  accessFlags := 1537
  interfaces := #[]
  cf := some (fileOf pool4 2 #[] #[] 1537 4 #[] #[])
  fields := #[]
  methods := #[]
  instanceTypes := #[]
  staticTypes := #[]
  resolved := Array.replicate 8 none
  statics := none }

def pool5 : Array CpInfo := pool [(1, u "java/io/Serializable"), (0, .class_ 1), (0, u "java/lang/Object"), (0, .class_ 3)] 3

/-- java/io/Serializable -/
def k5 : Class := { plain "java/io/Serializable" (some 0) with
  accessFlags := 1537
  interfaces := #[]
  cf := some (fileOf pool5 2 #[] #[] 1537 4 #[] #[])
  fields := #[]
  methods := #[]
  instanceTypes := #[]
  staticTypes := #[]
  resolved := Array.replicate 8 none
  statics := none }

/-- the primitive byte -/
def k6 : Class := { plain "byte" none with kind := .primitive 'B', accessFlags := 0x411 }
/-- [B -/
def k7 : Class := { plain "[B" (some 0) with kind := .array 6 .byte, interfaces := #[4, 5], accessFlags := 1041 }

/-- the primitive int -/
def k8 : Class := { plain "int" none with kind := .primitive 'I', accessFlags := 0x411 }
/-- [I -/
def k9 : Class := { plain "[I" (some 0) with kind := .array 8 .int, interfaces := #[4, 5], accessFlags := 1041 }

def heap : Heap := #[]
def classes : Array Class := #[k0, k1, k2, k3, k4, k5, k6, k7, k8, k9]
def interned : List (Array UInt16 × Addr) := []
def slotsUsed : Nat := 0
def theMethod : MethodId := ⟨1, 3⟩
def args0 : Array Value := #[.int 1, .long 2, .int 3, .int 4]
def aboutOver (below : List Frame) : State where
  vm := { classes := classes, interned := interned.toArray }
  heap := heap
  slotsUsed := slotsUsed
  threads := #[{ frames := .invoking theMethod args0 :: below }]
def below0 : List Frame := [.native { method := ⟨0, 0⟩, args := #[] }]
def about1 : State := aboutOver below0
def p0 : Program := .bare "" "" ""
def e0 : Env := launch0.env 0 0 0
theorem w_frames : about1.frames = Frame.invoking theMethod args0 :: below0 := rfl
set_option maxRecDepth 65536 in
theorem w_args : argsFit about1.vm theMethod args0 = true := by decide +kernel
set_option maxRecDepth 65536 in
theorem w_heap : heapFits about1 = true := by decide +kernel
set_option maxRecDepth 65536 in
theorem w_runnable : about1.curStatus? = some .runnable := by decide +kernel
set_option maxRecDepth 65536 in
theorem w_alone : about1.alone = true := by decide +kernel
set_option maxRecDepth 65536 in
theorem w_named : about1.methodNamed? x = some theMethod := by decide +kernel
set_option maxRecDepth 65536 in
theorem w_hears : about1.hears theMethod below0 = true := by decide +kernel
set_option maxRecDepth 65536 in
theorem w_ripe : about1.ripe theMethod args0 below0 = true := by decide +kernel
theorem w_running : about1.status = .running := rfl
set_option maxRecDepth 65536 in
theorem w_room : about1.hasRoom e0.platform room_1 = true :=
  launch0.hasRoom_least _ room_1 (by decide +kernel) (by decide +kernel) (by decide +kernel) (by decide +kernel) (by decide +kernel) (by decide +kernel)
theorem allAtoms_all (ts : List Jvm.Cond) (a : Array Jvm.Value) (st : Jvm.State) : (allAtoms ts).before a st = ts.all (fun c => c.before a st) := by
  induction ts with
  | nil => rfl
  | cons c t ih =>
    show (Jvm.Cond.and c (allAtoms t)).before a st = _
    rw [Jvm.Cond.before_and, ih, List.all_cons]
def words1 : List Jvm.Cond := Jvm.Cond.code x code maxLocals ret :: tables_1
/-- a 'code' word, met by the world's own term for the bytes: nothing is compared byte by byte -/
theorem code_word {y : MethodName} {bytes : ByteArray} {mx : Nat} {rt : Option FieldType} {a : Array Value} {s : State} {m : MethodId} {meth : Method} {c : Code} (h1 : s.methodNamed? y = some m) (h2 : s.vm.method? m = some meth) (h3 : meth.code = some c) (h4 : c.code = bytes)
    (h5 : (c.maxLocals == mx && c.exceptionTable.isEmpty && decide (c.maxStack ≤ mostOperands) && decide (meth.sig.returnType = rt) && !meth.locks && decide (parseMethodDescriptor y.desc = some meth.sig)) = true) : (Jvm.Cond.code y bytes mx rt).before a s = true := by
  simp only [Bool.and_eq_true, beq_iff_eq, Bool.not_eq_true', decide_eq_true_eq] at h5
  obtain ⟨⟨⟨⟨⟨g1, g2⟩, g3⟩, g4⟩, g5⟩, g6⟩ := h5
  simp [Cond.before, Cond.holds, Cond.value, h1, h2, h3, h4, g1, g2, g3, g4, g5, g6]
def isCode : Jvm.Cond → Bool
  | .code _ _ _ _ => true
  | _ => false
theorem all_split {L : List Jvm.Cond} {P : Jvm.Cond → Bool} (h1 : L.all (fun c => isCode c || P c) = true) (h2 : ∀ c ∈ L.filter isCode, P c = true) : L.all P = true := by
  refine List.all_eq_true.mpr fun c hc => ?_
  have h := List.all_eq_true.mp h1 c hc
  rcases Bool.eq_false_or_eq_true (isCode c) with hi | hi
  · exact h2 c (List.mem_filter.mpr ⟨hc, hi⟩)
  · simpa [hi] using h
set_option maxRecDepth 65536 in
theorem w_c0 : (Jvm.Cond.code x code maxLocals ret).before args0 about1 = true := code_word (m := ⟨1, 3⟩) (meth := k1m3) (c := k1c3) (by decide +kernel) rfl rfl rfl (by decide +kernel)
set_option maxRecDepth 65536 in
theorem w_c1 : (Jvm.Cond.code ({ cls := "com/example/sandpiper/sandpiper/broker/RequestHeadEndPinLaw", name := "pick", desc := "(IJI)B" } : Jvm.MethodName) method_2_code (5 : Nat) (Option.some Jvm.ClassFile.FieldType.byte)).before args0 about1 = true := code_word (m := ⟨1, 1⟩) (meth := k1m1) (c := k1c1) (by decide +kernel) rfl rfl rfl (by decide +kernel)
set_option maxRecDepth 65536 in
theorem w_c2 : (Jvm.Cond.code ({ cls := "com/example/sandpiper/sandpiper/broker/RequestHeadEndPinLaw", name := "endsAt", desc := "([BIII)Z" } : Jvm.MethodName) method_3_code (4 : Nat) (Option.some Jvm.ClassFile.FieldType.boolean)).before args0 about1 = true := code_word (m := ⟨1, 2⟩) (meth := k1m2) (c := k1c2) (by decide +kernel) rfl rfl rfl (by decide +kernel)
set_option maxRecDepth 65536 in
theorem w_c3 : (Jvm.Cond.code ({ cls := "com/example/sandpiper/sandpiper/broker/RequestHead", name := "end", desc := "([BII)I" } : Jvm.MethodName) prog_19_method_2_code (4 : Nat) (Option.some Jvm.ClassFile.FieldType.int)).before args0 about1 = true := code_word (m := ⟨3, 0⟩) (meth := k3m0) (c := k3c0) (by decide +kernel) rfl rfl rfl (by decide +kernel)
def codes1 : List Jvm.Cond := [Jvm.Cond.code x code maxLocals ret, Jvm.Cond.code ({ cls := "com/example/sandpiper/sandpiper/broker/RequestHeadEndPinLaw", name := "pick", desc := "(IJI)B" } : Jvm.MethodName) method_2_code (5 : Nat) (Option.some Jvm.ClassFile.FieldType.byte), Jvm.Cond.code ({ cls := "com/example/sandpiper/sandpiper/broker/RequestHeadEndPinLaw", name := "endsAt", desc := "([BIII)Z" } : Jvm.MethodName) method_3_code (4 : Nat) (Option.some Jvm.ClassFile.FieldType.boolean), Jvm.Cond.code ({ cls := "com/example/sandpiper/sandpiper/broker/RequestHead", name := "end", desc := "([BII)I" } : Jvm.MethodName) prog_19_method_2_code (4 : Nat) (Option.some Jvm.ClassFile.FieldType.int)]
set_option maxRecDepth 65536 in
theorem codes_eq : words1.filter isCode = codes1 := rfl
theorem w_codes : ∀ c ∈ words1.filter isCode, c.before args0 about1 = true := by
  rw [codes_eq]
  intro c hc
  simp only [codes1, List.mem_cons, List.not_mem_nil, or_false] at hc
  rcases hc with rfl | rfl | rfl | rfl
  · exact w_c0
  · exact w_c1
  · exact w_c2
  · exact w_c3
set_option maxRecDepth 65536 in
theorem w_t1 : words1.all (fun c => isCode c || c.before args0 about1) = true := by decide +kernel
theorem w_tables : (allAtoms (Jvm.Cond.code x code maxLocals ret :: tables_1)).before args0 about1 = true := by
  rw [allAtoms_all]
  show words1.all (fun c => c.before args0 about1) = true
  refine all_split ?_ w_codes
  rw [w_t1]
set_option maxRecDepth 65536 in
theorem w_case : (Jvm.Cond.and given_1 narrow_1).before args0 about1 = true := by decide +kernel
theorem w_applies : (headSpec (Jvm.Cond.code x code maxLocals ret :: tables_1) room_1).applies x e0.platform about1 = true :=
  (Spec.applies_iff w_frames).mpr ⟨w_running, w_runnable, w_alone, w_named, w_hears, w_ripe, w_room, w_tables⟩
theorem atStart : AtStart classFile x code maxLocals ret World_1 tables_1 room_1 Calls_1 rest_1 Pre_1 launch0 p0 e0 about1 theMethod args0 below0 :=
  ⟨lists_1, trivial, launch0.admits_env _ _ _, launch0.least_env, fairChoices_fair.cas, fairChoices_fair.clock, w_frames, w_args, w_heap, w_applies, trivial, trivial, w_case⟩
end start1
theorem witness_1 : WitnessClaimed_1 := ⟨start1.p0, start1.e0, start1.about1, start1.theMethod, start1.args0, start1.below0, start1.atStart⟩
end Jvm.Pilot.@@N@@
