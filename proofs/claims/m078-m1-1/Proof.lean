import JvmDerived
import JvmDerived.Pilot.@@N@@Statement
import JvmDerived.Pilot.@@N@@Code
set_option linter.unusedVariables false
set_option linter.unusedSimpArgs false
@@BLOCK:NumsL.lean.txt@@
namespace Jvm.RoadKit
open Sem ClassFile Op Lib Jvm.Stand Jvm.Free Jvm.LawKit
section New
variable {p : Program} {l : Launch} {e : Env} {R : Room} {s : State} {m : MethodId} {args : Array Value} {below : List Frame} {meth : Method} {c : Code} {T : State} {locs : List Loc} {cells slots : Nat}
theorem retI (X : Stand p l e R s m args below meth c T locs cells slots) (hx : p.tables.exec = Jvm.exec) {pc : Nat} {Ls : Array Slot} {z : Int32} {rest : List Value} (hret : meth.sig.returnType = some .int) (hd : decode c.code pc = .ok (.ireturn, 1)) {fs : List Frame}
    (hl : ∀ (f : JFrame) (acts : List Action), f.method = m → f.locked = none → f.entered = [] → (doReturn e (T.setTop f) acts (some (.int z))).1 = T.setFrames fs) : Steps p.tables e below (T.setTop (mkF m pc Ls (.int z :: rest))) (T.setFrames fs) := by
  have hm' : T.vm.method? m = some meth := X.method'
  have hn : narrow .int (.int z) = .int z := rfl
  show Steps p.tables e below (T.setTop { method := m, pc := pc, locals := Ls, stack := _ :: rest, locked := none }) _
  jvm_step X.here [X.here.top, hx, hd, hm', hret, hn]
  first | (intro acts; rw [hl _ acts rfl rfl rfl]) | rw [hl _ _ rfl rfl rfl]
  exact Steps.refl _
end New
end Jvm.RoadKit
namespace Jvm.Pilot.@@N@@
open Jvm Jvm.ClassFile Sem Op Lib Jvm.Free Jvm.Stand Jvm.LawKit Jvm.RoadKit Bundle Jvm.Pilot.@@N@@.Jvm.D
section Own
variable {p : Program} {l : Launch} {e : Env} {R : Room} {s : State} {m : MethodId} {args : Array Value} {below : List Frame} {meth : Method} {c : Code} {T : State} {locs : List Loc} {cells slots : Nat}
/-- the run goes on from S to its end, and P holds there -/
def own_Goes (tb : Tables) (e : Env) (below : List Frame) (S : State) (P : State → Outcome → Prop) : Prop :=
  ∃ s₂ o, Steps tb e below S s₂ ∧ s₂.status = .running ∧ Ended s₂ below o ∧ P s₂ o
theorem own_step {tb : Tables} {S S' : State} {P : State → Outcome → Prop} (h : ∀ t, Steps tb e below S' t → Steps tb e below S t) (k : own_Goes tb e below S' P) : own_Goes tb e below S P := by
  obtain ⟨s₂, o, h1, h2⟩ := k
  exact ⟨s₂, o, h _ h1, h2⟩
theorem own_enter {tb : Tables} {g g' : JFrame} {P : State → Outcome → Prop} (q : g = g') (k : own_Goes tb e below (T.setTop g') P) : own_Goes tb e below (T.setTop g) P := q ▸ k
def own_P (s : State) (Q : Option Value → Heap → List Loc → Prop) (C K : Nat) : State → Outcome → Prop := fun U o => ∃ v L, o = .returned v ∧ Q v U.heap L ∧ FrameEnd s o U L C K
/-- a body that writes nothing -/
def own_Qp (w : Option Value) (h0 : Heap) (v : Option Value) (h : Heap) (L : List Loc) : Prop := v = w ∧ L = [] ∧ h = h0
/-- a body that makes cells and writes none that stood before -/
def own_Qa (w : Option Value) (h0 : Heap) (n0 : Nat) (v : Option Value) (h : Heap) (L : List Loc) : Prop := v = w ∧ Fr n0 L ∧ Keep h0 h []
/-- the law -/
def own_Ql (w : Option Value) (n0 : Nat) (v : Option Value) (h : Heap) (L : List Loc) : Prop := v = w ∧ Fr n0 L
variable {Q : Option Value → Heap → List Loc → Prop} {C K : Nat}
theorem own_retI (X : Stand p l e R s m args below meth c T locs cells slots) (hx : p.tables.exec = Jvm.exec) {pc : Nat} {Ls : Array Slot} {z : Int32} {rest : List Value} (hret : meth.sig.returnType = some .int) (hd : decode c.code pc = .ok (.ireturn, 1)) (hk : meth.locks = false)
    (hQ : Q (some (.int z)) T.heap locs) (hc : cells ≤ C) (hs : slots ≤ K) : own_Goes p.tables e below (T.setTop (mkF m pc Ls (.int z :: rest))) (own_P s Q C K) := by
  obtain ⟨fs, hr, hrun, hended, hW, hsame⟩ := X.leave (v := some (.int z)) (fun h => by rw [hret] at h; cases h) hk
  exact ⟨_, _, retI X hx hret hd hr, hrun, hended, _, _, rfl, hQ, ⟨_, rfl⟩, hW, hsame.mono hc hs⟩
theorem own_retN (X : Stand p l e R s m args below meth c T locs cells slots) (hx : p.tables.exec = Jvm.exec) {pc : Nat} {Ls : Array Slot} {z : Int32} {t : FieldType} {rest : List Value} (hret : meth.sig.returnType = some t) (ht : t = .boolean ∨ t = .byte ∨ t = .char ∨ t = .short) (hd : decode c.code pc = .ok (.ireturn, 1)) (hk : meth.locks = false)
    {w : Int32} (hw : nar t z = w) (hQ : Q (some (.int w)) T.heap locs) (hc : cells ≤ C) (hs : slots ≤ K) : own_Goes p.tables e below (T.setTop (mkF m pc Ls (.int z :: rest))) (own_P s Q C K) := by
  subst hw
  obtain ⟨fs, hr, hrun, hended, hW, hsame⟩ := X.leave (v := some (.int (nar t z))) (fun h => by rw [hret] at h; cases h) hk
  exact ⟨_, _, retN X hx hret ht hd hr, hrun, hended, _, _, rfl, hQ, ⟨_, rfl⟩, hW, hsame.mono hc hs⟩
theorem own_retJ (X : Stand p l e R s m args below meth c T locs cells slots) (hx : p.tables.exec = Jvm.exec) {pc : Nat} {Ls : Array Slot} {z : Int64} (hret : meth.sig.returnType = some .long) (hd : decode c.code pc = .ok (.lreturn, 1)) (hk : meth.locks = false)
    (hQ : Q (some (.long z)) T.heap locs) (hc : cells ≤ C) (hs : slots ≤ K) : own_Goes p.tables e below (T.setTop (mkF m pc Ls [.long z])) (own_P s Q C K) := by
  obtain ⟨fs, hr, hrun, hended, hW, hsame⟩ := X.leave (v := some (.long z)) (fun h => by rw [hret] at h; cases h) hk
  exact ⟨_, _, X.lreturnOut hx hret hd hr, hrun, hended, _, _, rfl, hQ, ⟨_, rfl⟩, hW, hsame.mono hc hs⟩
theorem own_retV (X : Stand p l e R s m args below meth c T locs cells slots) (hx : p.tables.exec = Jvm.exec) {pc : Nat} {Ls : Array Slot} (hret : meth.sig.returnType = none) (hd : decode c.code pc = .ok (.return_, 1)) (hk : meth.locks = false)
    (hQ : Q none T.heap locs) (hc : cells ≤ C) (hs : slots ≤ K) : own_Goes p.tables e below (T.setTop (mkF m pc Ls [])) (own_P s Q C K) := by
  obtain ⟨fs, hr, hrun, hended, hW, hsame⟩ := X.leave (v := none) (fun _ => rfl) hk
  exact ⟨_, _, X.returnOut hx hret hd hr, hrun, hended, _, _, rfl, hQ, ⟨_, rfl⟩, hW, hsame.mono hc hs⟩
theorem own_flat (X : Stand p l e R s m args below meth c T (locs ++ []) (cells + 0) (slots + 0)) : Stand p l e R s m args below meth c T locs cells slots := List.append_nil locs ▸ X
end Own

section OwnArr
variable {p : Program} {l : Launch} {e : Env} {R : Room} {s : State} {m : MethodId} {args : Array Value} {below : List Frame} {meth : Method} {c : Code} {T : State} {locs : List Loc} {cells slots : Nat} {Z : State} {a0 : Array Value} {h h' : Heap} {a : Addr} {k : ClassId} {ty : FieldType} {n : Int32} {xs : List Int32}
/-- an array of ints (bytes, chars ..) that the road has made: xs are its elements -/
def own_A (Z : State) (h : Heap) (a : Addr) (k : ClassId) (ty : FieldType) (n : Int32) (xs : List Int32) : Prop := Arv Z h a k ty n (xs.map Value.int) (.int 0)
theorem own_A.keep {ws : List Addr} (V : own_A Z h a k ty n xs) (K : Keep h h' ws) (q : a ∉ ws) : own_A Z h' a k ty n xs := Arv.keep V K q
theorem own_newA (X : Stand p l e R s m args below meth c T locs cells slots) (hx : p.tables.exec = Jvm.exec) (hZ : Z.Warmed39 s.vm) {aty : ArrayType} (w : (Jvm.Cond.arrayClass (newarray.typeOf aty)).before a0 Z = true) (eT : T.heap = h) {g : JFrame} (hg : g.method = m) (hd : decode c.code g.pc = .ok (.newarray aty, 2)) {rest : List Value} (hs : g.stack = .int n :: rest)
    (N : Nat) (hn : ¬ n < 0) (hN : n.toNatClampNeg = N) (hb : N * 8 ≤ 536870912) (hc : cells + 1 ≤ R.cells) (hl : slots + N ≤ R.slots) (h0 : defaultValue (newarray.typeOf aty) = .int 0) :
    ∃ T' h' a k, Stand p l e R s m args below meth c T' locs (cells + 1) (slots + N) ∧ T'.heap = h' ∧ Ext h h' ∧ a = h.size ∧ own_A Z h' a k (newarray.typeOf aty) n (List.replicate N 0) ∧
      ∀ target, Steps p.tables e below (T'.setTop { g with pc := g.pc + 2, stack := .ref a :: rest }) target → Steps p.tables e below (T.setTop g) target := by
  obtain ⟨T', h', cA, X', e', E, A, st⟩ := newP X hx hZ w eT hg hd hs hn (cap := N) (Nat.le_of_eq hN) hb hc hl
  refine ⟨T', h', h.size, cA, X', e', E, rfl, ?_, st⟩
  have V := Arv.new A hn
  rw [h0] at V
  have V' := V.pad (pad_rep [] (.int 0) N)
  unfold own_A
  rw [List.map_replicate]
  exact V'
theorem own_setA {j x : Int32} {cl : Cell} (A : Arr Z h a cl ty) (q : cl.cls = k) (S : cl.slots.size = n.toNatClampNeg) (N : ¬ n < 0) (H : Has cl (xs.map Value.int) (.int 0)) (G : ∀ i, i < cl.slots.size → fits ty ((xs.map Value.int).getD i (.int 0)) = true) (hf : fits ty (.int x) = true)
    (W : Wr h h' a j.toNatClampNeg (.int x)) (i : Nat) (hj : j.toNatClampNeg = i) (hi : i < xs.length) : own_A Z h' a k ty n (xs.set i x) := by
  have V := Arv.set A q S N H G hf W i hj (by simpa using hi)
  unfold own_A
  rw [List.map_set]
  exact V
theorem own_stI (X : Stand p l e R s m args below meth c T locs cells slots) (hx : p.tables.exec = Jvm.exec) (hZ : Z.Warmed39 s.vm) (eT : T.heap = h) (V : own_A Z h a k .int n xs) {j x : Int32} (i : Nat) (hj : ¬ j < 0 ∧ j < n) (hi : j.toNatClampNeg = i) (hl : i < xs.length)
    {g : JFrame} (hg : g.method = m) {rest : List Value} (hs : g.stack = .int x :: .int j :: .ref a :: rest) (hd : decode c.code g.pc = .ok (.iastore, 1)) :
    ∃ T' h' L', Stand p l e R s m args below meth c T' L' cells slots ∧ T'.heap = h' ∧ (∀ n0, Fr n0 locs → n0 ≤ a → Fr n0 L') ∧ own_A Z h' a k .int n (xs.set i x) ∧ Wr h h' a j.toNatClampNeg (.int x) ∧
      ∀ target, Steps p.tables e below (T'.setTop { g with pc := g.pc + 1, stack := rest }) target → Steps p.tables e below (T.setTop g) target := by
  obtain ⟨cl, A, q, S, N, H, G⟩ := V
  obtain ⟨T', h', X', e', W, st⟩ := stI X hx hZ eT A (inb_of S hj) hg hs hd
  exact ⟨T', h', _, X', e', fun n0 F q => Fr.snoc X' F q, own_setA A q S N H G rfl W i hi hl, W, st⟩
theorem own_stB (X : Stand p l e R s m args below meth c T locs cells slots) (hx : p.tables.exec = Jvm.exec) (hZ : Z.Warmed39 s.vm) (eT : T.heap = h) (V : own_A Z h a k .byte n xs) {j x : Int32} (i : Nat) (hj : ¬ j < 0 ∧ j < n) (hi : j.toNatClampNeg = i) (hl : i < xs.length)
    {g : JFrame} (hg : g.method = m) {rest : List Value} (hs : g.stack = .int x :: .int j :: .ref a :: rest) (hd : decode c.code g.pc = .ok (.bastore, 1)) :
    ∃ T' h' L', Stand p l e R s m args below meth c T' L' cells slots ∧ T'.heap = h' ∧ (∀ n0, Fr n0 locs → n0 ≤ a → Fr n0 L') ∧ own_A Z h' a k .byte n (xs.set i (nar .byte x)) ∧ Wr h h' a j.toNatClampNeg (.int (nar .byte x)) ∧
      ∀ target, Steps p.tables e below (T'.setTop { g with pc := g.pc + 1, stack := rest }) target → Steps p.tables e below (T.setTop g) target := by
  obtain ⟨cl, A, q, S, N, H, G⟩ := V
  obtain ⟨T', h', X', e', W, st⟩ := stB X hx hZ eT A (inb_of S hj) hg hs hd
  exact ⟨T', h', _, X', e', fun n0 F q => Fr.snoc X' F q, own_setA A q S N H G (fits_nar_byte _) W i hi hl, W, st⟩
theorem own_stC (X : Stand p l e R s m args below meth c T locs cells slots) (hx : p.tables.exec = Jvm.exec) (hZ : Z.Warmed39 s.vm) (eT : T.heap = h) (V : own_A Z h a k .char n xs) {j x : Int32} (i : Nat) (hj : ¬ j < 0 ∧ j < n) (hi : j.toNatClampNeg = i) (hl : i < xs.length)
    {g : JFrame} (hg : g.method = m) {rest : List Value} (hs : g.stack = .int x :: .int j :: .ref a :: rest) (hd : decode c.code g.pc = .ok (.castore, 1)) :
    ∃ T' h' L', Stand p l e R s m args below meth c T' L' cells slots ∧ T'.heap = h' ∧ (∀ n0, Fr n0 locs → n0 ≤ a → Fr n0 L') ∧ own_A Z h' a k .char n (xs.set i (nar .char x)) ∧ Wr h h' a j.toNatClampNeg (.int (nar .char x)) ∧
      ∀ target, Steps p.tables e below (T'.setTop { g with pc := g.pc + 1, stack := rest }) target → Steps p.tables e below (T.setTop g) target := by
  obtain ⟨cl, A, q, S, N, H, G⟩ := V
  obtain ⟨T', h', X', e', W, st⟩ := stC X hx hZ eT A (inb_of S hj) hg hs hd
  exact ⟨T', h', _, X', e', fun n0 F q => Fr.snoc X' F q, own_setA A q S N H G (fits_nar_char _) W i hi hl, W, st⟩
theorem own_getA (V : own_A Z h a k ty n xs) {j : Int32} (hj : ¬ j < 0 ∧ j < n) : ∃ cl : Cell, Arr Z h a cl ty ∧ ¬ (j < 0 ∨ cl.slots.size ≤ j.toNatClampNeg) ∧ cl.slots[j.toNatClampNeg]? = some (.int (xs.getD j.toNatClampNeg 0)) := by
  obtain ⟨cl, A, q, S, N, H, G⟩ := V
  have hin := inb_of S hj
  refine ⟨cl, A, hin, ?_⟩
  rw [H _ (Nat.lt_of_not_le fun q => hin (Or.inr q))]
  simp only [List.getD_eq_getElem?_getD, List.getElem?_map]
  cases xs[j.toNatClampNeg]? <;> rfl
theorem own_ldI (X : Stand p l e R s m args below meth c T locs cells slots) (hx : p.tables.exec = Jvm.exec) (hZ : Z.Warmed39 s.vm) (eT : T.heap = h) (V : own_A Z h a k .int n xs) {j : Int32} (hj : ¬ j < 0 ∧ j < n)
    {g : JFrame} (hg : g.method = m) {rest : List Value} (hs : g.stack = .int j :: .ref a :: rest) (hd : decode c.code g.pc = .ok (.iaload, 1)) :
    ∀ target, Steps p.tables e below (T.setTop { g with pc := g.pc + 1, stack := .int (xs.getD j.toNatClampNeg 0) :: rest }) target → Steps p.tables e below (T.setTop g) target := by
  obtain ⟨cl, A, hin, hat⟩ := own_getA V hj
  exact X.iaload hx (by rw [eT]; exact A.1) (State.isArrayOf_alike hZ.alike A.2.1) A.2.2 hin hat hg hs hd
theorem own_ldB (X : Stand p l e R s m args below meth c T locs cells slots) (hx : p.tables.exec = Jvm.exec) (hZ : Z.Warmed39 s.vm) (eT : T.heap = h) (V : own_A Z h a k .byte n xs) {j : Int32} (hj : ¬ j < 0 ∧ j < n)
    {g : JFrame} (hg : g.method = m) {rest : List Value} (hs : g.stack = .int j :: .ref a :: rest) (hd : decode c.code g.pc = .ok (.baload, 1)) :
    ∀ target, Steps p.tables e below (T.setTop { g with pc := g.pc + 1, stack := .int (xs.getD j.toNatClampNeg 0) :: rest }) target → Steps p.tables e below (T.setTop g) target := by
  obtain ⟨cl, A, hin, hat⟩ := own_getA V hj
  exact X.baloadBytes hx (by rw [eT]; exact A.1) (State.isArrayOf_alike hZ.alike A.2.1) A.2.2 hin hat hg hs hd
theorem own_ldC (X : Stand p l e R s m args below meth c T locs cells slots) (hx : p.tables.exec = Jvm.exec) (hZ : Z.Warmed39 s.vm) (eT : T.heap = h) (V : own_A Z h a k .char n xs) {j : Int32} (hj : ¬ j < 0 ∧ j < n)
    {g : JFrame} (hg : g.method = m) {rest : List Value} (hs : g.stack = .int j :: .ref a :: rest) (hd : decode c.code g.pc = .ok (.caload, 1)) :
    ∀ target, Steps p.tables e below (T.setTop { g with pc := g.pc + 1, stack := .int (xs.getD j.toNatClampNeg 0) :: rest }) target → Steps p.tables e below (T.setTop g) target := by
  obtain ⟨cl, A, hin, hat⟩ := own_getA V hj
  exact X.caload hx (by rw [eT]; exact A.1) (State.isArrayOf_alike hZ.alike A.2.1) A.2.2 hin hat hg hs hd
end OwnArr

def own_tb : List Int32 := [32, 9, 10, 13, 133, 8232, 8233, 11]
theorem own_nn (p : Int32) : ¬ (p &&& (7 : Int32)) < 0 ∧ (p &&& (7 : Int32)) < 8 := by
  have e := Jvm.Kit.i32_mask p 7 (k := 3) (by decide) (by decide)
  rw [Int32.lt_iff_toInt_lt, Int32.lt_iff_toInt_lt, e, show (8 : Int32).toInt = 8 from rfl, show (0 : Int32).toInt = 0 from rfl]
  omega

theorem d3_0 : decode method_3_code 0 = .ok (.bipush 8, 2) := by decide +kernel
theorem d3_2 : decode method_3_code 2 = .ok (.newarray .char, 2) := by decide +kernel
theorem d3_4 : decode method_3_code 4 = .ok (.dup, 1) := by decide +kernel
theorem d3_5 : decode method_3_code 5 = .ok (.iconst 0, 1) := by decide +kernel
theorem d3_6 : decode method_3_code 6 = .ok (.bipush 32, 2) := by decide +kernel
theorem d3_8 : decode method_3_code 8 = .ok (.castore, 1) := by decide +kernel
theorem d3_9 : decode method_3_code 9 = .ok (.dup, 1) := by decide +kernel
theorem d3_10 : decode method_3_code 10 = .ok (.iconst 1, 1) := by decide +kernel
theorem d3_11 : decode method_3_code 11 = .ok (.bipush 9, 2) := by decide +kernel
theorem d3_13 : decode method_3_code 13 = .ok (.castore, 1) := by decide +kernel
theorem d3_14 : decode method_3_code 14 = .ok (.dup, 1) := by decide +kernel
theorem d3_15 : decode method_3_code 15 = .ok (.iconst 2, 1) := by decide +kernel
theorem d3_16 : decode method_3_code 16 = .ok (.bipush 10, 2) := by decide +kernel
theorem d3_18 : decode method_3_code 18 = .ok (.castore, 1) := by decide +kernel
theorem d3_19 : decode method_3_code 19 = .ok (.dup, 1) := by decide +kernel
theorem d3_20 : decode method_3_code 20 = .ok (.iconst 3, 1) := by decide +kernel
theorem d3_21 : decode method_3_code 21 = .ok (.bipush 13, 2) := by decide +kernel
theorem d3_23 : decode method_3_code 23 = .ok (.castore, 1) := by decide +kernel
theorem d3_24 : decode method_3_code 24 = .ok (.dup, 1) := by decide +kernel
theorem d3_25 : decode method_3_code 25 = .ok (.iconst 4, 1) := by decide +kernel
theorem d3_26 : decode method_3_code 26 = .ok (.sipush 133, 3) := by decide +kernel
theorem d3_29 : decode method_3_code 29 = .ok (.castore, 1) := by decide +kernel
theorem d3_30 : decode method_3_code 30 = .ok (.dup, 1) := by decide +kernel
theorem d3_31 : decode method_3_code 31 = .ok (.iconst 5, 1) := by decide +kernel
theorem d3_32 : decode method_3_code 32 = .ok (.sipush 8232, 3) := by decide +kernel
theorem d3_35 : decode method_3_code 35 = .ok (.castore, 1) := by decide +kernel
theorem d3_36 : decode method_3_code 36 = .ok (.dup, 1) := by decide +kernel
theorem d3_37 : decode method_3_code 37 = .ok (.bipush 6, 2) := by decide +kernel
theorem d3_39 : decode method_3_code 39 = .ok (.sipush 8233, 3) := by decide +kernel
theorem d3_42 : decode method_3_code 42 = .ok (.castore, 1) := by decide +kernel
theorem d3_43 : decode method_3_code 43 = .ok (.dup, 1) := by decide +kernel
theorem d3_44 : decode method_3_code 44 = .ok (.bipush 7, 2) := by decide +kernel
theorem d3_46 : decode method_3_code 46 = .ok (.bipush 11, 2) := by decide +kernel
theorem d3_48 : decode method_3_code 48 = .ok (.castore, 1) := by decide +kernel
theorem d3_49 : decode method_3_code 49 = .ok (.astore_n 1, 1) := by decide +kernel
theorem d3_50 : decode method_3_code 50 = .ok (.aload_n 1, 1) := by decide +kernel
theorem d3_51 : decode method_3_code 51 = .ok (.iload_n 0, 1) := by decide +kernel
theorem d3_52 : decode method_3_code 52 = .ok (.caload, 1) := by decide +kernel
theorem d3_53 : decode method_3_code 53 = .ok (.ireturn, 1) := by decide +kernel
theorem pn_3 : plainName "com/example/bede/bede/cli/SkippedReferencesIsWhiteSpacePinLaw" = true := by first | (simp [plainName, overriddenIn]; done) | decide +kernel
theorem ef_3 (m : MethodId) (p0 : Int32) : entryFrame m #[(.int p0)] 2 = mkF m 0 #[.val (.int p0), .unset] [] := by first | (simp [entryFrame, mkF, argsToLocals, Value.category]; done) | rfl
def own_f3 (p0 : Int32) : Int32 :=
  (nar .char (own_tb.getD p0.toNatClampNeg 0))
abbrev own_room3 : Room := { frames := 0, cells := 1, slots := 8, locals := 0 }
set_option maxRecDepth 65536 in
set_option maxHeartbeats 40000000 in
theorem rm3 (l : Launch) (Z : State) (a0 : Array Value) (hw : ∀ d ∈ tables_1, d.before a0 Z = true) (ws : List Jvm.Cond) (p0 : Int32) (h0 : Heap) (n0 : Nat) (Z0 : n0 ≤ h0.size) (hp : ¬ p0 < 0 ∧ p0 < 8) :
    MetFree l (⟨"com/example/bede/bede/cli/SkippedReferencesIsWhiteSpacePinLaw", "pick", "(I)C"⟩ : MethodName) (head1 (Jvm.Cond.code (⟨"com/example/bede/bede/cli/SkippedReferencesIsWhiteSpacePinLaw", "pick", "(I)C"⟩ : MethodName) method_3_code 2 (some .char) :: ws) own_room3) (fun a U => a = #[(.int p0)] ∧ Z.Warmed39 U.vm ∧ U.heap = h0) (fun _ _ _ _ _ => True) (fun _ U o U' => ∃ v L, o = .returned v ∧ own_Qa (some (.int (own_f3 p0))) h0 n0 v U'.heap L ∧ FrameEnd U o U' L own_room3.cells own_room3.slots) := by
  refine MetFree.of_bodySF (plainFor_of_name pn_3) hisR ?_
  intro p e s m args below meth c s₁ Bd hml0 hP hK
  obtain ⟨rfl, hZ, hh⟩ := hP
  have hx := Bd.exec
  have hby := Bd.bytes
  have hml : c.maxLocals = 2 := hml0
  have hown : s.vm.findClass "com/example/bede/bede/cli/SkippedReferencesIsWhiteSpacePinLaw" = some m.cls := findClass_of_methodNamed Bd.named
  have hnm := (name_of_methodNamed Bd.named Bd.method).1
  have X0 : Stand p l e own_room3 s m #[(.int p0)] below meth c s₁ [] 0 0 := Stand.of_body Bd
  have e0 : s₁.heap = h0 := by rw [← hh, Bd.state]; rfl
  have N0 := Fr.nil n0
  refine own_enter (ef_3 m p0) ?_
  show own_Goes p.tables e below (s₁.setTop (mkF m 0 #[.val (.int p0), .unset] [])) (own_P s (own_Qa (some (.int (own_f3 p0))) h0 n0) own_room3.cells own_room3.slots)
  refine own_step (fun _ => XS.bipush X0.here hx rfl (hb hby d3_0)) ?_
  show own_Goes p.tables e below (s₁.setTop (mkF m 2 #[.val (.int p0), .unset] [(.int (8 : Int32))])) _
  obtain ⟨T1, h1, b2, k1, X1, e1, E1, g1, V1, st1⟩ := own_newA X0 hx hZ (hw _ (List.mem_of_getElem? (i := 12) rfl)) e0 (g := (mkF m 2 #[.val (.int p0), .unset] [(.int (8 : Int32))])) rfl (hb hby d3_2) rfl 8 (by decide) (by decide) (by decide) (by decide) (by decide) rfl
  have g_b2 : n0 ≤ b2 := Nat.le_trans Z0 (Nat.le_of_eq g1.symm)
  have sz_b2 : h0.size ≤ b2 := Nat.le_trans (Keep.refl h0 []).1 (Nat.le_of_eq g1.symm)
  have K1 : Keep h0 h1 [] := (Keep.refl h0 []).ext E1
  have Z1 : n0 ≤ h1.size := Nat.le_trans Z0 E1.1
  have V1 : own_A Z h1 b2 k1 .char (8 : Int32) [(0 : Int32), (0 : Int32), (0 : Int32), (0 : Int32), (0 : Int32), (0 : Int32), (0 : Int32), (0 : Int32)] := V1
  refine own_step (st1) ?_
  show own_Goes p.tables e below (T1.setTop (mkF m 4 #[.val (.int p0), .unset] [(.ref b2)])) _
  refine own_step (fun _ => XS.dup X1.here hx rfl (hb hby d3_4) rfl rfl) ?_
  show own_Goes p.tables e below (T1.setTop (mkF m 5 #[.val (.int p0), .unset] [(.ref b2), (.ref b2)])) _
  refine own_step (fun _ => XS.iconst X1.here hx rfl (hb hby d3_5)) ?_
  show own_Goes p.tables e below (T1.setTop (mkF m 6 #[.val (.int p0), .unset] [(.int (0 : Int32)), (.ref b2), (.ref b2)])) _
  refine own_step (fun _ => XS.bipush X1.here hx rfl (hb hby d3_6)) ?_
  show own_Goes p.tables e below (T1.setTop (mkF m 8 #[.val (.int p0), .unset] [(.int (32 : Int32)), (.int (0 : Int32)), (.ref b2), (.ref b2)])) _
  obtain ⟨T2, h2, L2, X2, e2, N2, V2, W2, st2⟩ := own_stC X1 hx hZ e1 V1 (j := (0 : Int32)) 0 ⟨by decide, by decide⟩ (by decide) (show 0 < 8 by decide) (g := (mkF m 8 #[.val (.int p0), .unset] [(.int (32 : Int32)), (.int (0 : Int32)), (.ref b2), (.ref b2)])) rfl rfl (hb hby d3_8)
  have N2 := N2 n0 N0 g_b2
  have K2 : Keep h0 h2 [] := K1.wr W2 (Or.inr sz_b2)
  have Z2 : n0 ≤ h2.size := Nat.le_trans Z0 K2.1
  have V2 : own_A Z h2 b2 k1 .char (8 : Int32) [(32 : Int32), (0 : Int32), (0 : Int32), (0 : Int32), (0 : Int32), (0 : Int32), (0 : Int32), (0 : Int32)] := V2
  refine own_step (st2) ?_
  show own_Goes p.tables e below (T2.setTop (mkF m 9 #[.val (.int p0), .unset] [(.ref b2)])) _
  refine own_step (fun _ => XS.dup X2.here hx rfl (hb hby d3_9) rfl rfl) ?_
  show own_Goes p.tables e below (T2.setTop (mkF m 10 #[.val (.int p0), .unset] [(.ref b2), (.ref b2)])) _
  refine own_step (fun _ => XS.iconst X2.here hx rfl (hb hby d3_10)) ?_
  show own_Goes p.tables e below (T2.setTop (mkF m 11 #[.val (.int p0), .unset] [(.int (1 : Int32)), (.ref b2), (.ref b2)])) _
  refine own_step (fun _ => XS.bipush X2.here hx rfl (hb hby d3_11)) ?_
  show own_Goes p.tables e below (T2.setTop (mkF m 13 #[.val (.int p0), .unset] [(.int (9 : Int32)), (.int (1 : Int32)), (.ref b2), (.ref b2)])) _
  obtain ⟨T3, h3, L3, X3, e3, N3, V3, W3, st3⟩ := own_stC X2 hx hZ e2 V2 (j := (1 : Int32)) 1 ⟨by decide, by decide⟩ (by decide) (show 1 < 8 by decide) (g := (mkF m 13 #[.val (.int p0), .unset] [(.int (9 : Int32)), (.int (1 : Int32)), (.ref b2), (.ref b2)])) rfl rfl (hb hby d3_13)
  have N3 := N3 n0 N2 g_b2
  have K3 : Keep h0 h3 [] := K2.wr W3 (Or.inr sz_b2)
  have Z3 : n0 ≤ h3.size := Nat.le_trans Z0 K3.1
  have V3 : own_A Z h3 b2 k1 .char (8 : Int32) [(32 : Int32), (9 : Int32), (0 : Int32), (0 : Int32), (0 : Int32), (0 : Int32), (0 : Int32), (0 : Int32)] := V3
  refine own_step (st3) ?_
  show own_Goes p.tables e below (T3.setTop (mkF m 14 #[.val (.int p0), .unset] [(.ref b2)])) _
  refine own_step (fun _ => XS.dup X3.here hx rfl (hb hby d3_14) rfl rfl) ?_
  show own_Goes p.tables e below (T3.setTop (mkF m 15 #[.val (.int p0), .unset] [(.ref b2), (.ref b2)])) _
  refine own_step (fun _ => XS.iconst X3.here hx rfl (hb hby d3_15)) ?_
  show own_Goes p.tables e below (T3.setTop (mkF m 16 #[.val (.int p0), .unset] [(.int (2 : Int32)), (.ref b2), (.ref b2)])) _
  refine own_step (fun _ => XS.bipush X3.here hx rfl (hb hby d3_16)) ?_
  show own_Goes p.tables e below (T3.setTop (mkF m 18 #[.val (.int p0), .unset] [(.int (10 : Int32)), (.int (2 : Int32)), (.ref b2), (.ref b2)])) _
  obtain ⟨T4, h4, L4, X4, e4, N4, V4, W4, st4⟩ := own_stC X3 hx hZ e3 V3 (j := (2 : Int32)) 2 ⟨by decide, by decide⟩ (by decide) (show 2 < 8 by decide) (g := (mkF m 18 #[.val (.int p0), .unset] [(.int (10 : Int32)), (.int (2 : Int32)), (.ref b2), (.ref b2)])) rfl rfl (hb hby d3_18)
  have N4 := N4 n0 N3 g_b2
  have K4 : Keep h0 h4 [] := K3.wr W4 (Or.inr sz_b2)
  have Z4 : n0 ≤ h4.size := Nat.le_trans Z0 K4.1
  have V4 : own_A Z h4 b2 k1 .char (8 : Int32) [(32 : Int32), (9 : Int32), (10 : Int32), (0 : Int32), (0 : Int32), (0 : Int32), (0 : Int32), (0 : Int32)] := V4
  refine own_step (st4) ?_
  show own_Goes p.tables e below (T4.setTop (mkF m 19 #[.val (.int p0), .unset] [(.ref b2)])) _
  refine own_step (fun _ => XS.dup X4.here hx rfl (hb hby d3_19) rfl rfl) ?_
  show own_Goes p.tables e below (T4.setTop (mkF m 20 #[.val (.int p0), .unset] [(.ref b2), (.ref b2)])) _
  refine own_step (fun _ => XS.iconst X4.here hx rfl (hb hby d3_20)) ?_
  show own_Goes p.tables e below (T4.setTop (mkF m 21 #[.val (.int p0), .unset] [(.int (3 : Int32)), (.ref b2), (.ref b2)])) _
  refine own_step (fun _ => XS.bipush X4.here hx rfl (hb hby d3_21)) ?_
  show own_Goes p.tables e below (T4.setTop (mkF m 23 #[.val (.int p0), .unset] [(.int (13 : Int32)), (.int (3 : Int32)), (.ref b2), (.ref b2)])) _
  obtain ⟨T5, h5, L5, X5, e5, N5, V5, W5, st5⟩ := own_stC X4 hx hZ e4 V4 (j := (3 : Int32)) 3 ⟨by decide, by decide⟩ (by decide) (show 3 < 8 by decide) (g := (mkF m 23 #[.val (.int p0), .unset] [(.int (13 : Int32)), (.int (3 : Int32)), (.ref b2), (.ref b2)])) rfl rfl (hb hby d3_23)
  have N5 := N5 n0 N4 g_b2
  have K5 : Keep h0 h5 [] := K4.wr W5 (Or.inr sz_b2)
  have Z5 : n0 ≤ h5.size := Nat.le_trans Z0 K5.1
  have V5 : own_A Z h5 b2 k1 .char (8 : Int32) [(32 : Int32), (9 : Int32), (10 : Int32), (13 : Int32), (0 : Int32), (0 : Int32), (0 : Int32), (0 : Int32)] := V5
  refine own_step (st5) ?_
  show own_Goes p.tables e below (T5.setTop (mkF m 24 #[.val (.int p0), .unset] [(.ref b2)])) _
  refine own_step (fun _ => XS.dup X5.here hx rfl (hb hby d3_24) rfl rfl) ?_
  show own_Goes p.tables e below (T5.setTop (mkF m 25 #[.val (.int p0), .unset] [(.ref b2), (.ref b2)])) _
  refine own_step (fun _ => XS.iconst X5.here hx rfl (hb hby d3_25)) ?_
  show own_Goes p.tables e below (T5.setTop (mkF m 26 #[.val (.int p0), .unset] [(.int (4 : Int32)), (.ref b2), (.ref b2)])) _
  refine own_step (fun _ => XS.sipush X5.here hx rfl (hb hby d3_26)) ?_
  show own_Goes p.tables e below (T5.setTop (mkF m 29 #[.val (.int p0), .unset] [(.int (133 : Int32)), (.int (4 : Int32)), (.ref b2), (.ref b2)])) _
  obtain ⟨T6, h6, L6, X6, e6, N6, V6, W6, st6⟩ := own_stC X5 hx hZ e5 V5 (j := (4 : Int32)) 4 ⟨by decide, by decide⟩ (by decide) (show 4 < 8 by decide) (g := (mkF m 29 #[.val (.int p0), .unset] [(.int (133 : Int32)), (.int (4 : Int32)), (.ref b2), (.ref b2)])) rfl rfl (hb hby d3_29)
  have N6 := N6 n0 N5 g_b2
  have K6 : Keep h0 h6 [] := K5.wr W6 (Or.inr sz_b2)
  have Z6 : n0 ≤ h6.size := Nat.le_trans Z0 K6.1
  have V6 : own_A Z h6 b2 k1 .char (8 : Int32) [(32 : Int32), (9 : Int32), (10 : Int32), (13 : Int32), (133 : Int32), (0 : Int32), (0 : Int32), (0 : Int32)] := V6
  refine own_step (st6) ?_
  show own_Goes p.tables e below (T6.setTop (mkF m 30 #[.val (.int p0), .unset] [(.ref b2)])) _
  refine own_step (fun _ => XS.dup X6.here hx rfl (hb hby d3_30) rfl rfl) ?_
  show own_Goes p.tables e below (T6.setTop (mkF m 31 #[.val (.int p0), .unset] [(.ref b2), (.ref b2)])) _
  refine own_step (fun _ => XS.iconst X6.here hx rfl (hb hby d3_31)) ?_
  show own_Goes p.tables e below (T6.setTop (mkF m 32 #[.val (.int p0), .unset] [(.int (5 : Int32)), (.ref b2), (.ref b2)])) _
  refine own_step (fun _ => XS.sipush X6.here hx rfl (hb hby d3_32)) ?_
  show own_Goes p.tables e below (T6.setTop (mkF m 35 #[.val (.int p0), .unset] [(.int (8232 : Int32)), (.int (5 : Int32)), (.ref b2), (.ref b2)])) _
  obtain ⟨T7, h7, L7, X7, e7, N7, V7, W7, st7⟩ := own_stC X6 hx hZ e6 V6 (j := (5 : Int32)) 5 ⟨by decide, by decide⟩ (by decide) (show 5 < 8 by decide) (g := (mkF m 35 #[.val (.int p0), .unset] [(.int (8232 : Int32)), (.int (5 : Int32)), (.ref b2), (.ref b2)])) rfl rfl (hb hby d3_35)
  have N7 := N7 n0 N6 g_b2
  have K7 : Keep h0 h7 [] := K6.wr W7 (Or.inr sz_b2)
  have Z7 : n0 ≤ h7.size := Nat.le_trans Z0 K7.1
  have V7 : own_A Z h7 b2 k1 .char (8 : Int32) [(32 : Int32), (9 : Int32), (10 : Int32), (13 : Int32), (133 : Int32), (8232 : Int32), (0 : Int32), (0 : Int32)] := V7
  refine own_step (st7) ?_
  show own_Goes p.tables e below (T7.setTop (mkF m 36 #[.val (.int p0), .unset] [(.ref b2)])) _
  refine own_step (fun _ => XS.dup X7.here hx rfl (hb hby d3_36) rfl rfl) ?_
  show own_Goes p.tables e below (T7.setTop (mkF m 37 #[.val (.int p0), .unset] [(.ref b2), (.ref b2)])) _
  refine own_step (fun _ => XS.bipush X7.here hx rfl (hb hby d3_37)) ?_
  show own_Goes p.tables e below (T7.setTop (mkF m 39 #[.val (.int p0), .unset] [(.int (6 : Int32)), (.ref b2), (.ref b2)])) _
  refine own_step (fun _ => XS.sipush X7.here hx rfl (hb hby d3_39)) ?_
  show own_Goes p.tables e below (T7.setTop (mkF m 42 #[.val (.int p0), .unset] [(.int (8233 : Int32)), (.int (6 : Int32)), (.ref b2), (.ref b2)])) _
  obtain ⟨T8, h8, L8, X8, e8, N8, V8, W8, st8⟩ := own_stC X7 hx hZ e7 V7 (j := (6 : Int32)) 6 ⟨by decide, by decide⟩ (by decide) (show 6 < 8 by decide) (g := (mkF m 42 #[.val (.int p0), .unset] [(.int (8233 : Int32)), (.int (6 : Int32)), (.ref b2), (.ref b2)])) rfl rfl (hb hby d3_42)
  have N8 := N8 n0 N7 g_b2
  have K8 : Keep h0 h8 [] := K7.wr W8 (Or.inr sz_b2)
  have Z8 : n0 ≤ h8.size := Nat.le_trans Z0 K8.1
  have V8 : own_A Z h8 b2 k1 .char (8 : Int32) [(32 : Int32), (9 : Int32), (10 : Int32), (13 : Int32), (133 : Int32), (8232 : Int32), (8233 : Int32), (0 : Int32)] := V8
  refine own_step (st8) ?_
  show own_Goes p.tables e below (T8.setTop (mkF m 43 #[.val (.int p0), .unset] [(.ref b2)])) _
  refine own_step (fun _ => XS.dup X8.here hx rfl (hb hby d3_43) rfl rfl) ?_
  show own_Goes p.tables e below (T8.setTop (mkF m 44 #[.val (.int p0), .unset] [(.ref b2), (.ref b2)])) _
  refine own_step (fun _ => XS.bipush X8.here hx rfl (hb hby d3_44)) ?_
  show own_Goes p.tables e below (T8.setTop (mkF m 46 #[.val (.int p0), .unset] [(.int (7 : Int32)), (.ref b2), (.ref b2)])) _
  refine own_step (fun _ => XS.bipush X8.here hx rfl (hb hby d3_46)) ?_
  show own_Goes p.tables e below (T8.setTop (mkF m 48 #[.val (.int p0), .unset] [(.int (11 : Int32)), (.int (7 : Int32)), (.ref b2), (.ref b2)])) _
  obtain ⟨T9, h9, L9, X9, e9, N9, V9, W9, st9⟩ := own_stC X8 hx hZ e8 V8 (j := (7 : Int32)) 7 ⟨by decide, by decide⟩ (by decide) (show 7 < 8 by decide) (g := (mkF m 48 #[.val (.int p0), .unset] [(.int (11 : Int32)), (.int (7 : Int32)), (.ref b2), (.ref b2)])) rfl rfl (hb hby d3_48)
  have N9 := N9 n0 N8 g_b2
  have K9 : Keep h0 h9 [] := K8.wr W9 (Or.inr sz_b2)
  have Z9 : n0 ≤ h9.size := Nat.le_trans Z0 K9.1
  have V9 : own_A Z h9 b2 k1 .char (8 : Int32) [(32 : Int32), (9 : Int32), (10 : Int32), (13 : Int32), (133 : Int32), (8232 : Int32), (8233 : Int32), (11 : Int32)] := V9
  refine own_step (st9) ?_
  show own_Goes p.tables e below (T9.setTop (mkF m 49 #[.val (.int p0), .unset] [(.ref b2)])) _
  have V_own_tb : own_A Z h9 b2 k1 .char (8 : Int32) own_tb := V9
  refine own_step (fun _ => XS.astoreN X9.here hx rfl (hb hby d3_49) rfl rfl (l' := #[.val (.int p0), .val (.ref b2)]) rfl) ?_
  show own_Goes p.tables e below (T9.setTop (mkF m 50 #[.val (.int p0), .val (.ref b2)] [])) _
  refine own_step (fun _ => XS.aloadN X9.here hx rfl (hb hby d3_50) rfl rfl) ?_
  show own_Goes p.tables e below (T9.setTop (mkF m 51 #[.val (.int p0), .val (.ref b2)] [(.ref b2)])) _
  refine own_step (fun _ => XS.iloadN X9.here hx rfl (hb hby d3_51) rfl) ?_
  show own_Goes p.tables e below (T9.setTop (mkF m 52 #[.val (.int p0), .val (.ref b2)] [(.int p0), (.ref b2)])) _
  refine own_step (own_ldC X9 hx hZ e9 V_own_tb (j := p0) hp (g := (mkF m 52 #[.val (.int p0), .val (.ref b2)] [(.int p0), (.ref b2)])) rfl rfl (hb hby d3_52)) ?_
  show own_Goes p.tables e below (T9.setTop (mkF m 53 #[.val (.int p0), .val (.ref b2)] [(.int (own_tb.getD p0.toNatClampNeg 0))])) _
  have hv : (own_f3 p0) = (nar .char (own_tb.getD p0.toNatClampNeg 0)) := by exact rfl
  rw [hv]
  exact own_retN X9 hx (t := .char) Bd.returns (by simp) (hb hby d3_53) (BodyLoose.notSynchronized Bd) (w := (nar .char (own_tb.getD p0.toNatClampNeg 0))) rfl ⟨rfl, N9, by rw [e9]; exact K9⟩ (by decide) (by decide)
theorem d2_0 : decode prog_157_method_21_code 0 = .ok (.iload_n 0, 1) := by decide +kernel
theorem d2_1 : decode prog_157_method_21_code 1 = .ok (.bipush 32, 2) := by decide +kernel
theorem d2_3 : decode prog_157_method_21_code 3 = .ok (.if_icmp .eq 43, 3) := by decide +kernel
theorem d2_6 : decode prog_157_method_21_code 6 = .ok (.iload_n 0, 1) := by decide +kernel
theorem d2_7 : decode prog_157_method_21_code 7 = .ok (.bipush 9, 2) := by decide +kernel
theorem d2_9 : decode prog_157_method_21_code 9 = .ok (.if_icmp .eq 37, 3) := by decide +kernel
theorem d2_12 : decode prog_157_method_21_code 12 = .ok (.iload_n 0, 1) := by decide +kernel
theorem d2_13 : decode prog_157_method_21_code 13 = .ok (.bipush 10, 2) := by decide +kernel
theorem d2_15 : decode prog_157_method_21_code 15 = .ok (.if_icmp .eq 31, 3) := by decide +kernel
theorem d2_18 : decode prog_157_method_21_code 18 = .ok (.iload_n 0, 1) := by decide +kernel
theorem d2_19 : decode prog_157_method_21_code 19 = .ok (.bipush 13, 2) := by decide +kernel
theorem d2_21 : decode prog_157_method_21_code 21 = .ok (.if_icmp .eq 25, 3) := by decide +kernel
theorem d2_24 : decode prog_157_method_21_code 24 = .ok (.iload_n 1, 1) := by decide +kernel
theorem d2_25 : decode prog_157_method_21_code 25 = .ok (.ifCond .eq 25, 3) := by decide +kernel
theorem d2_28 : decode prog_157_method_21_code 28 = .ok (.iload_n 2, 1) := by decide +kernel
theorem d2_29 : decode prog_157_method_21_code 29 = .ok (.ifCond .eq 21, 3) := by decide +kernel
theorem d2_32 : decode prog_157_method_21_code 32 = .ok (.iload_n 0, 1) := by decide +kernel
theorem d2_33 : decode prog_157_method_21_code 33 = .ok (.sipush 133, 3) := by decide +kernel
theorem d2_36 : decode prog_157_method_21_code 36 = .ok (.if_icmp .eq 10, 3) := by decide +kernel
theorem d2_39 : decode prog_157_method_21_code 39 = .ok (.iload_n 0, 1) := by decide +kernel
theorem d2_40 : decode prog_157_method_21_code 40 = .ok (.sipush 8232, 3) := by decide +kernel
theorem d2_43 : decode prog_157_method_21_code 43 = .ok (.if_icmp .ne 7, 3) := by decide +kernel
theorem d2_46 : decode prog_157_method_21_code 46 = .ok (.iconst 1, 1) := by decide +kernel
theorem d2_47 : decode prog_157_method_21_code 47 = .ok (.goto 4, 3) := by decide +kernel
theorem d2_50 : decode prog_157_method_21_code 50 = .ok (.iconst 0, 1) := by decide +kernel
theorem d2_51 : decode prog_157_method_21_code 51 = .ok (.ireturn, 1) := by decide +kernel
theorem pn_2 : plainName "com/example/bede/bede/cli/SkippedReferences" = true := by first | (simp [plainName, overriddenIn]; done) | decide +kernel
theorem ef_2 (m : MethodId) (p0 : Int32) (p1 : Int32) (p2 : Int32) : entryFrame m #[(.int p0), (.int p1), (.int p2)] 3 = mkF m 0 #[.val (.int p0), .val (.int p1), .val (.int p2)] [] := by first | (simp [entryFrame, mkF, argsToLocals, Value.category]; done) | rfl
def own_f2_46 : Int32 :=
  (1 : Int32)
def own_f2_50 : Int32 :=
  (0 : Int32)
def own_f2 (p0 : Int32) (p1 : Int32) (p2 : Int32) : Int32 :=
  if p0 = (32 : Int32) then
    (own_f2_46)
  else
    if p0 = (9 : Int32) then
      (own_f2_46)
    else
      if p0 = (10 : Int32) then
        (own_f2_46)
      else
        if p0 = (13 : Int32) then
          (own_f2_46)
        else
          if p1 = 0 then
            (own_f2_50)
          else
            if p2 = 0 then
              (own_f2_50)
            else
              if p0 = (133 : Int32) then
                (own_f2_46)
              else
                if p0 = (8232 : Int32) then
                  (own_f2_46)
                else
                  (own_f2_50)
abbrev own_room2 : Room := { frames := 0, cells := 0, slots := 0, locals := 0 }
set_option maxRecDepth 65536 in
set_option maxHeartbeats 40000000 in
theorem rm2 (l : Launch) (Z : State) (a0 : Array Value) (hw : ∀ d ∈ tables_1, d.before a0 Z = true) (ws : List Jvm.Cond) (p0 : Int32) (p1 : Int32) (p2 : Int32) (h0 : Heap) (n0 : Nat) (Z0 : n0 ≤ h0.size) :
    MetFree l (⟨"com/example/bede/bede/cli/SkippedReferences", "isWhiteSpace", "(CZZ)Z"⟩ : MethodName) (head1 (Jvm.Cond.code (⟨"com/example/bede/bede/cli/SkippedReferences", "isWhiteSpace", "(CZZ)Z"⟩ : MethodName) prog_157_method_21_code 3 (some .boolean) :: ws) own_room2) (fun a U => a = #[(.int p0), (.int p1), (.int p2)] ∧ Z.Warmed39 U.vm ∧ U.heap = h0) (fun _ _ _ _ _ => True) (fun _ U o U' => ∃ v L, o = .returned v ∧ own_Qp (some (.int (own_f2 p0 p1 p2))) h0 v U'.heap L ∧ FrameEnd U o U' L own_room2.cells own_room2.slots) := by
  refine MetFree.of_bodySF (plainFor_of_name pn_2) hisR ?_
  intro p e s m args below meth c s₁ Bd hml0 hP hK
  obtain ⟨rfl, hZ, hh⟩ := hP
  have hx := Bd.exec
  have hby := Bd.bytes
  have hml : c.maxLocals = 3 := hml0
  have hown : s.vm.findClass "com/example/bede/bede/cli/SkippedReferences" = some m.cls := findClass_of_methodNamed Bd.named
  have hnm := (name_of_methodNamed Bd.named Bd.method).1
  have X0 : Stand p l e own_room2 s m #[(.int p0), (.int p1), (.int p2)] below meth c s₁ [] 0 0 := Stand.of_body Bd
  have e0 : s₁.heap = h0 := by rw [← hh, Bd.state]; rfl
  have N0 := Fr.nil n0
  refine own_enter (ef_2 m p0 p1 p2) ?_
  show own_Goes p.tables e below (s₁.setTop (mkF m 0 #[.val (.int p0), .val (.int p1), .val (.int p2)] [])) (own_P s (own_Qp (some (.int (own_f2 p0 p1 p2))) h0) own_room2.cells own_room2.slots)
  refine own_step (fun _ => XS.iloadN X0.here hx rfl (hb hby d2_0) rfl) ?_
  show own_Goes p.tables e below (s₁.setTop (mkF m 1 #[.val (.int p0), .val (.int p1), .val (.int p2)] [(.int p0)])) _
  refine own_step (fun _ => XS.bipush X0.here hx rfl (hb hby d2_1)) ?_
  show own_Goes p.tables e below (s₁.setTop (mkF m 3 #[.val (.int p0), .val (.int p1), .val (.int p2)] [(.int (32 : Int32)), (.int p0)])) _
  have J46 : ∀ (T_46 : State) (X_46 : Stand p l e own_room2 s m #[(.int p0), (.int p1), (.int p2)] below meth c T_46 [] 0 0) (e_46 : T_46.heap = h0), own_Goes p.tables e below (T_46.setTop (mkF m 46 #[.val (.int p0), .val (.int p1), .val (.int p2)] [])) (own_P s (own_Qp (some (.int (own_f2_46))) h0) own_room2.cells own_room2.slots) := by
    intro T_46 X_46 e_46
    refine own_step (fun _ => XS.iconst X_46.here hx rfl (hb hby d2_46)) ?_
    show own_Goes p.tables e below (T_46.setTop (mkF m 47 #[.val (.int p0), .val (.int p1), .val (.int p2)] [(.int (1 : Int32))])) _
    refine own_step (fun _ => XS.goto X_46.here hx rfl (pc0 := 47) (pc' := 51) rfl (hb hby d2_47) (by decide) (by decide)) ?_
    show own_Goes p.tables e below (T_46.setTop (mkF m 51 #[.val (.int p0), .val (.int p1), .val (.int p2)] [(.int (1 : Int32))])) _
    have hv : (own_f2_46) = (1 : Int32) := by exact rfl
    rw [hv]
    exact own_retN X_46 hx (t := .boolean) Bd.returns (by simp) (hb hby d2_51) (BodyLoose.notSynchronized Bd) (w := (1 : Int32)) rfl ⟨rfl, rfl, e_46⟩ (by decide) (by decide)
  by_cases hc3 : p0 = (32 : Int32)
  · refine own_step (fun _ => XS.icmpYes X0.here hx rfl (pc0 := 3) (pc' := 46) rfl (hb hby d2_3) rfl (Jvm.Free.XT.ii_eq_t hc3) (by decide) (by decide)) ?_
    show own_Goes p.tables e below (s₁.setTop (mkF m 46 #[.val (.int p0), .val (.int p1), .val (.int p2)] [])) _
    have hv : (own_f2 p0 p1 p2) = (own_f2_46) := by exact (if_pos hc3)
    rw [hv]
    exact J46 s₁ X0 e0
  · refine own_step (fun _ => XS.icmpNo X0.here hx rfl (hb hby d2_3) rfl (Jvm.Free.XT.ii_eq_f hc3)) ?_
    show own_Goes p.tables e below (s₁.setTop (mkF m 6 #[.val (.int p0), .val (.int p1), .val (.int p2)] [])) _
    refine own_step (fun _ => XS.iloadN X0.here hx rfl (hb hby d2_6) rfl) ?_
    show own_Goes p.tables e below (s₁.setTop (mkF m 7 #[.val (.int p0), .val (.int p1), .val (.int p2)] [(.int p0)])) _
    refine own_step (fun _ => XS.bipush X0.here hx rfl (hb hby d2_7)) ?_
    show own_Goes p.tables e below (s₁.setTop (mkF m 9 #[.val (.int p0), .val (.int p1), .val (.int p2)] [(.int (9 : Int32)), (.int p0)])) _
    by_cases hc9 : p0 = (9 : Int32)
    · refine own_step (fun _ => XS.icmpYes X0.here hx rfl (pc0 := 9) (pc' := 46) rfl (hb hby d2_9) rfl (Jvm.Free.XT.ii_eq_t hc9) (by decide) (by decide)) ?_
      show own_Goes p.tables e below (s₁.setTop (mkF m 46 #[.val (.int p0), .val (.int p1), .val (.int p2)] [])) _
      have hv : (own_f2 p0 p1 p2) = (own_f2_46) := by exact ((if_neg hc3)).trans (if_pos hc9)
      rw [hv]
      exact J46 s₁ X0 e0
    · refine own_step (fun _ => XS.icmpNo X0.here hx rfl (hb hby d2_9) rfl (Jvm.Free.XT.ii_eq_f hc9)) ?_
      show own_Goes p.tables e below (s₁.setTop (mkF m 12 #[.val (.int p0), .val (.int p1), .val (.int p2)] [])) _
      refine own_step (fun _ => XS.iloadN X0.here hx rfl (hb hby d2_12) rfl) ?_
      show own_Goes p.tables e below (s₁.setTop (mkF m 13 #[.val (.int p0), .val (.int p1), .val (.int p2)] [(.int p0)])) _
      refine own_step (fun _ => XS.bipush X0.here hx rfl (hb hby d2_13)) ?_
      show own_Goes p.tables e below (s₁.setTop (mkF m 15 #[.val (.int p0), .val (.int p1), .val (.int p2)] [(.int (10 : Int32)), (.int p0)])) _
      by_cases hc15 : p0 = (10 : Int32)
      · refine own_step (fun _ => XS.icmpYes X0.here hx rfl (pc0 := 15) (pc' := 46) rfl (hb hby d2_15) rfl (Jvm.Free.XT.ii_eq_t hc15) (by decide) (by decide)) ?_
        show own_Goes p.tables e below (s₁.setTop (mkF m 46 #[.val (.int p0), .val (.int p1), .val (.int p2)] [])) _
        have hv : (own_f2 p0 p1 p2) = (own_f2_46) := by exact (((if_neg hc3)).trans (if_neg hc9)).trans (if_pos hc15)
        rw [hv]
        exact J46 s₁ X0 e0
      · refine own_step (fun _ => XS.icmpNo X0.here hx rfl (hb hby d2_15) rfl (Jvm.Free.XT.ii_eq_f hc15)) ?_
        show own_Goes p.tables e below (s₁.setTop (mkF m 18 #[.val (.int p0), .val (.int p1), .val (.int p2)] [])) _
        refine own_step (fun _ => XS.iloadN X0.here hx rfl (hb hby d2_18) rfl) ?_
        show own_Goes p.tables e below (s₁.setTop (mkF m 19 #[.val (.int p0), .val (.int p1), .val (.int p2)] [(.int p0)])) _
        refine own_step (fun _ => XS.bipush X0.here hx rfl (hb hby d2_19)) ?_
        show own_Goes p.tables e below (s₁.setTop (mkF m 21 #[.val (.int p0), .val (.int p1), .val (.int p2)] [(.int (13 : Int32)), (.int p0)])) _
        by_cases hc21 : p0 = (13 : Int32)
        · refine own_step (fun _ => XS.icmpYes X0.here hx rfl (pc0 := 21) (pc' := 46) rfl (hb hby d2_21) rfl (Jvm.Free.XT.ii_eq_t hc21) (by decide) (by decide)) ?_
          show own_Goes p.tables e below (s₁.setTop (mkF m 46 #[.val (.int p0), .val (.int p1), .val (.int p2)] [])) _
          have hv : (own_f2 p0 p1 p2) = (own_f2_46) := by exact ((((if_neg hc3)).trans (if_neg hc9)).trans (if_neg hc15)).trans (if_pos hc21)
          rw [hv]
          exact J46 s₁ X0 e0
        · refine own_step (fun _ => XS.icmpNo X0.here hx rfl (hb hby d2_21) rfl (Jvm.Free.XT.ii_eq_f hc21)) ?_
          show own_Goes p.tables e below (s₁.setTop (mkF m 24 #[.val (.int p0), .val (.int p1), .val (.int p2)] [])) _
          refine own_step (fun _ => XS.iloadN X0.here hx rfl (hb hby d2_24) rfl) ?_
          show own_Goes p.tables e below (s₁.setTop (mkF m 25 #[.val (.int p0), .val (.int p1), .val (.int p2)] [(.int p1)])) _
          have J50 : ∀ (T_50 : State) (X_50 : Stand p l e own_room2 s m #[(.int p0), (.int p1), (.int p2)] below meth c T_50 [] 0 0) (e_50 : T_50.heap = h0), own_Goes p.tables e below (T_50.setTop (mkF m 50 #[.val (.int p0), .val (.int p1), .val (.int p2)] [])) (own_P s (own_Qp (some (.int (own_f2_50))) h0) own_room2.cells own_room2.slots) := by
            intro T_50 X_50 e_50
            refine own_step (fun _ => XS.iconst X_50.here hx rfl (hb hby d2_50)) ?_
            show own_Goes p.tables e below (T_50.setTop (mkF m 51 #[.val (.int p0), .val (.int p1), .val (.int p2)] [(.int (0 : Int32))])) _
            have hv : (own_f2_50) = (0 : Int32) := by exact rfl
            rw [hv]
            exact own_retN X_50 hx (t := .boolean) Bd.returns (by simp) (hb hby d2_51) (BodyLoose.notSynchronized Bd) (w := (0 : Int32)) rfl ⟨rfl, rfl, e_50⟩ (by decide) (by decide)
          by_cases hc25 : p1 = 0
          · refine own_step (fun _ => XS.ifYes X0.here hx rfl (pc0 := 25) (pc' := 50) rfl (hb hby d2_25) rfl (Jvm.Free.XT.i0_eq_t hc25) (by decide) (by decide)) ?_
            show own_Goes p.tables e below (s₁.setTop (mkF m 50 #[.val (.int p0), .val (.int p1), .val (.int p2)] [])) _
            have hv : (own_f2 p0 p1 p2) = (own_f2_50) := by exact (((((if_neg hc3)).trans (if_neg hc9)).trans (if_neg hc15)).trans (if_neg hc21)).trans (if_pos hc25)
            rw [hv]
            exact J50 s₁ X0 e0
          · refine own_step (fun _ => XS.ifNo X0.here hx rfl (hb hby d2_25) rfl (Jvm.Free.XT.i0_eq_f hc25)) ?_
            show own_Goes p.tables e below (s₁.setTop (mkF m 28 #[.val (.int p0), .val (.int p1), .val (.int p2)] [])) _
            refine own_step (fun _ => XS.iloadN X0.here hx rfl (hb hby d2_28) rfl) ?_
            show own_Goes p.tables e below (s₁.setTop (mkF m 29 #[.val (.int p0), .val (.int p1), .val (.int p2)] [(.int p2)])) _
            by_cases hc29 : p2 = 0
            · refine own_step (fun _ => XS.ifYes X0.here hx rfl (pc0 := 29) (pc' := 50) rfl (hb hby d2_29) rfl (Jvm.Free.XT.i0_eq_t hc29) (by decide) (by decide)) ?_
              show own_Goes p.tables e below (s₁.setTop (mkF m 50 #[.val (.int p0), .val (.int p1), .val (.int p2)] [])) _
              have hv : (own_f2 p0 p1 p2) = (own_f2_50) := by exact ((((((if_neg hc3)).trans (if_neg hc9)).trans (if_neg hc15)).trans (if_neg hc21)).trans (if_neg hc25)).trans (if_pos hc29)
              rw [hv]
              exact J50 s₁ X0 e0
            · refine own_step (fun _ => XS.ifNo X0.here hx rfl (hb hby d2_29) rfl (Jvm.Free.XT.i0_eq_f hc29)) ?_
              show own_Goes p.tables e below (s₁.setTop (mkF m 32 #[.val (.int p0), .val (.int p1), .val (.int p2)] [])) _
              refine own_step (fun _ => XS.iloadN X0.here hx rfl (hb hby d2_32) rfl) ?_
              show own_Goes p.tables e below (s₁.setTop (mkF m 33 #[.val (.int p0), .val (.int p1), .val (.int p2)] [(.int p0)])) _
              refine own_step (fun _ => XS.sipush X0.here hx rfl (hb hby d2_33)) ?_
              show own_Goes p.tables e below (s₁.setTop (mkF m 36 #[.val (.int p0), .val (.int p1), .val (.int p2)] [(.int (133 : Int32)), (.int p0)])) _
              by_cases hc36 : p0 = (133 : Int32)
              · refine own_step (fun _ => XS.icmpYes X0.here hx rfl (pc0 := 36) (pc' := 46) rfl (hb hby d2_36) rfl (Jvm.Free.XT.ii_eq_t hc36) (by decide) (by decide)) ?_
                show own_Goes p.tables e below (s₁.setTop (mkF m 46 #[.val (.int p0), .val (.int p1), .val (.int p2)] [])) _
                have hv : (own_f2 p0 p1 p2) = (own_f2_46) := by exact (((((((if_neg hc3)).trans (if_neg hc9)).trans (if_neg hc15)).trans (if_neg hc21)).trans (if_neg hc25)).trans (if_neg hc29)).trans (if_pos hc36)
                rw [hv]
                exact J46 s₁ X0 e0
              · refine own_step (fun _ => XS.icmpNo X0.here hx rfl (hb hby d2_36) rfl (Jvm.Free.XT.ii_eq_f hc36)) ?_
                show own_Goes p.tables e below (s₁.setTop (mkF m 39 #[.val (.int p0), .val (.int p1), .val (.int p2)] [])) _
                refine own_step (fun _ => XS.iloadN X0.here hx rfl (hb hby d2_39) rfl) ?_
                show own_Goes p.tables e below (s₁.setTop (mkF m 40 #[.val (.int p0), .val (.int p1), .val (.int p2)] [(.int p0)])) _
                refine own_step (fun _ => XS.sipush X0.here hx rfl (hb hby d2_40)) ?_
                show own_Goes p.tables e below (s₁.setTop (mkF m 43 #[.val (.int p0), .val (.int p1), .val (.int p2)] [(.int (8232 : Int32)), (.int p0)])) _
                by_cases hc43 : p0 = (8232 : Int32)
                · refine own_step (fun _ => XS.icmpNo X0.here hx rfl (hb hby d2_43) rfl (Jvm.Free.XT.ii_ne_f hc43)) ?_
                  show own_Goes p.tables e below (s₁.setTop (mkF m 46 #[.val (.int p0), .val (.int p1), .val (.int p2)] [])) _
                  have hv : (own_f2 p0 p1 p2) = (own_f2_46) := by exact ((((((((if_neg hc3)).trans (if_neg hc9)).trans (if_neg hc15)).trans (if_neg hc21)).trans (if_neg hc25)).trans (if_neg hc29)).trans (if_neg hc36)).trans (if_pos hc43)
                  rw [hv]
                  exact J46 s₁ X0 e0
                · refine own_step (fun _ => XS.icmpYes X0.here hx rfl (pc0 := 43) (pc' := 50) rfl (hb hby d2_43) rfl (Jvm.Free.XT.ii_ne_t hc43) (by decide) (by decide)) ?_
                  show own_Goes p.tables e below (s₁.setTop (mkF m 50 #[.val (.int p0), .val (.int p1), .val (.int p2)] [])) _
                  have hv : (own_f2 p0 p1 p2) = (own_f2_50) := by exact ((((((((if_neg hc3)).trans (if_neg hc9)).trans (if_neg hc15)).trans (if_neg hc21)).trans (if_neg hc25)).trans (if_neg hc29)).trans (if_neg hc36)).trans (if_neg hc43)
                  rw [hv]
                  exact J50 s₁ X0 e0
theorem d1_0 : decode method_4_code 0 = .ok (.iload_n 0, 1) := by decide +kernel
theorem d1_1 : decode method_4_code 1 = .ok (.istore_n 3, 1) := by decide +kernel
theorem d1_2 : decode method_4_code 2 = .ok (.iload_n 3, 1) := by decide +kernel
theorem d1_3 : decode method_4_code 3 = .ok (.bipush 64, 2) := by decide +kernel
theorem d1_5 : decode method_4_code 5 = .ok (.if_icmp .ge 19, 3) := by decide +kernel
theorem d1_8 : decode method_4_code 8 = .ok (.ldc2_w 17, 3) := by decide +kernel
theorem d1_11 : decode method_4_code 11 = .ok (.iload_n 3, 1) := by decide +kernel
theorem d1_12 : decode method_4_code 12 = .ok (.lushr, 1) := by decide +kernel
theorem d1_13 : decode method_4_code 13 = .ok (.lconst 1, 1) := by decide +kernel
theorem d1_14 : decode method_4_code 14 = .ok (.land, 1) := by decide +kernel
theorem d1_15 : decode method_4_code 15 = .ok (.lconst 0, 1) := by decide +kernel
theorem d1_16 : decode method_4_code 16 = .ok (.lcmp, 1) := by decide +kernel
theorem d1_17 : decode method_4_code 17 = .ok (.ifCond .eq 7, 3) := by decide +kernel
theorem d1_20 : decode method_4_code 20 = .ok (.iconst 1, 1) := by decide +kernel
theorem d1_21 : decode method_4_code 21 = .ok (.goto 4, 3) := by decide +kernel
theorem d1_24 : decode method_4_code 24 = .ok (.iconst 0, 1) := by decide +kernel
theorem d1_25 : decode method_4_code 25 = .ok (.istore 4, 2) := by decide +kernel
theorem d1_27 : decode method_4_code 27 = .ok (.iload_n 3, 1) := by decide +kernel
theorem d1_28 : decode method_4_code 28 = .ok (.sipush 133, 3) := by decide +kernel
theorem d1_31 : decode method_4_code 31 = .ok (.if_icmp .eq 10, 3) := by decide +kernel
theorem d1_34 : decode method_4_code 34 = .ok (.iload_n 3, 1) := by decide +kernel
theorem d1_35 : decode method_4_code 35 = .ok (.sipush 8232, 3) := by decide +kernel
theorem d1_38 : decode method_4_code 38 = .ok (.if_icmp .ne 7, 3) := by decide +kernel
theorem d1_41 : decode method_4_code 41 = .ok (.iconst 1, 1) := by decide +kernel
theorem d1_42 : decode method_4_code 42 = .ok (.goto 4, 3) := by decide +kernel
theorem d1_45 : decode method_4_code 45 = .ok (.iconst 0, 1) := by decide +kernel
theorem d1_46 : decode method_4_code 46 = .ok (.istore 5, 2) := by decide +kernel
theorem d1_48 : decode method_4_code 48 = .ok (.iload 4, 2) := by decide +kernel
theorem d1_50 : decode method_4_code 50 = .ok (.ifCond .eq 9, 3) := by decide +kernel
theorem d1_53 : decode method_4_code 53 = .ok (.iconst 1, 1) := by decide +kernel
theorem d1_54 : decode method_4_code 54 = .ok (.istore 6, 2) := by decide +kernel
theorem d1_56 : decode method_4_code 56 = .ok (.goto 21, 3) := by decide +kernel
theorem d1_59 : decode method_4_code 59 = .ok (.iload_n 1, 1) := by decide +kernel
theorem d1_60 : decode method_4_code 60 = .ok (.ifCond .eq 14, 3) := by decide +kernel
theorem d1_63 : decode method_4_code 63 = .ok (.iload_n 2, 1) := by decide +kernel
theorem d1_64 : decode method_4_code 64 = .ok (.ifCond .eq 10, 3) := by decide +kernel
theorem d1_67 : decode method_4_code 67 = .ok (.iload 5, 2) := by decide +kernel
theorem d1_69 : decode method_4_code 69 = .ok (.istore 6, 2) := by decide +kernel
theorem d1_71 : decode method_4_code 71 = .ok (.goto 6, 3) := by decide +kernel
theorem d1_74 : decode method_4_code 74 = .ok (.iconst 0, 1) := by decide +kernel
theorem d1_75 : decode method_4_code 75 = .ok (.istore 6, 2) := by decide +kernel
theorem d1_77 : decode method_4_code 77 = .ok (.iload_n 0, 1) := by decide +kernel
theorem d1_78 : decode method_4_code 78 = .ok (.iload_n 1, 1) := by decide +kernel
theorem d1_79 : decode method_4_code 79 = .ok (.iload_n 2, 1) := by decide +kernel
theorem d1_80 : decode method_4_code 80 = .ok (.invokestatic 19, 3) := by decide +kernel
theorem d1_83 : decode method_4_code 83 = .ok (.iload 6, 2) := by decide +kernel
theorem d1_85 : decode method_4_code 85 = .ok (.if_icmp .ne 7, 3) := by decide +kernel
theorem d1_88 : decode method_4_code 88 = .ok (.iconst 1, 1) := by decide +kernel
theorem d1_89 : decode method_4_code 89 = .ok (.goto 4, 3) := by decide +kernel
theorem d1_92 : decode method_4_code 92 = .ok (.iconst 0, 1) := by decide +kernel
theorem d1_93 : decode method_4_code 93 = .ok (.ireturn, 1) := by decide +kernel
theorem pn_1 : plainName "com/example/bede/bede/cli/SkippedReferencesIsWhiteSpacePinLaw" = true := by first | (simp [plainName, overriddenIn]; done) | decide +kernel
theorem pd_1_0 : parseMethodDescriptor "(CZZ)Z" = some ⟨[.char, .boolean, .boolean], some .boolean⟩ := by decide +kernel
theorem ef_1 (m : MethodId) (p0 : Int32) (p1 : Int32) (p2 : Int32) : entryFrame m #[(.int p0), (.int p1), (.int p2)] 7 = mkF m 0 #[.val (.int p0), .val (.int p1), .val (.int p2), .unset, .unset, .unset, .unset] [] := by first | (simp [entryFrame, mkF, argsToLocals, Value.category]; done) | rfl
def own_f1_77 (p0 : Int32) (p1 : Int32) (p2 : Int32) (v77_l6 : Int32) : Int32 :=
  if (own_f2 p0 p1 p2) = v77_l6 then
    (1 : Int32)
  else
    (0 : Int32)
def own_f1_74 (p0 : Int32) (p1 : Int32) (p2 : Int32) : Int32 :=
  (own_f1_77 p0 p1 p2 (0 : Int32))
def own_f1_46 (p0 : Int32) (p1 : Int32) (p2 : Int32) (v25_t0 : Int32) (v46_t0 : Int32) : Int32 :=
  if v25_t0 = 0 then
    if p1 = 0 then
      (own_f1_74 p0 p1 p2)
    else
      if p2 = 0 then
        (own_f1_74 p0 p1 p2)
      else
        (own_f1_77 p0 p1 p2 v46_t0)
  else
    (own_f1_77 p0 p1 p2 (1 : Int32))
def own_f1_41 (p0 : Int32) (p1 : Int32) (p2 : Int32) (v25_t0 : Int32) : Int32 :=
  (own_f1_46 p0 p1 p2 v25_t0 (1 : Int32))
def own_f1_25 (p0 : Int32) (p1 : Int32) (p2 : Int32) (v25_t0 : Int32) : Int32 :=
  if p0 = (133 : Int32) then
    (own_f1_41 p0 p1 p2 v25_t0)
  else
    if p0 = (8232 : Int32) then
      (own_f1_41 p0 p1 p2 v25_t0)
    else
      (own_f1_46 p0 p1 p2 v25_t0 (0 : Int32))
def own_f1_24 (p0 : Int32) (p1 : Int32) (p2 : Int32) : Int32 :=
  (own_f1_25 p0 p1 p2 (0 : Int32))
def own_f1 (p0 : Int32) (p1 : Int32) (p2 : Int32) : Int32 :=
  if p0 < (64 : Int32) then
    if ((((4294977024 : Int64).toUInt64 >>> (p0 &&& 0x3f).toInt64.toUInt64).toInt64) &&& (1 : Int64)) = (0 : Int64) then
      (own_f1_24 p0 p1 p2)
    else
      (own_f1_25 p0 p1 p2 (1 : Int32))
  else
    (own_f1_24 p0 p1 p2)
abbrev own_room1 : Room := { frames := 1, cells := 0, slots := 0, locals := 14 }
set_option maxRecDepth 65536 in
set_option maxHeartbeats 40000000 in
theorem rm1 (l : Launch) (Z : State) (a0 : Array Value) (hw : ∀ d ∈ tables_1, d.before a0 Z = true) (ws : List Jvm.Cond) (p0 : Int32) (p1 : Int32) (p2 : Int32) (h0 : Heap) (n0 : Nat) (Z0 : n0 ≤ h0.size) :
    MetFree l (⟨"com/example/bede/bede/cli/SkippedReferencesIsWhiteSpacePinLaw", "check", "(CZZ)Z"⟩ : MethodName) (head1 (Jvm.Cond.code (⟨"com/example/bede/bede/cli/SkippedReferencesIsWhiteSpacePinLaw", "check", "(CZZ)Z"⟩ : MethodName) method_4_code 7 (some .boolean) :: ws) own_room1) (fun a U => a = #[(.int p0), (.int p1), (.int p2)] ∧ Z.Warmed39 U.vm ∧ U.heap = h0) (fun _ _ _ _ _ => True) (fun _ U o U' => ∃ v L, o = .returned v ∧ own_Qp (some (.int (own_f1 p0 p1 p2))) h0 v U'.heap L ∧ FrameEnd U o U' L own_room1.cells own_room1.slots) := by
  refine MetFree.of_bodySF (plainFor_of_name pn_1) hisR ?_
  intro p e s m args below meth c s₁ Bd hml0 hP hK
  obtain ⟨rfl, hZ, hh⟩ := hP
  have hx := Bd.exec
  have hby := Bd.bytes
  have hml : c.maxLocals = 7 := hml0
  have hown : s.vm.findClass "com/example/bede/bede/cli/SkippedReferencesIsWhiteSpacePinLaw" = some m.cls := findClass_of_methodNamed Bd.named
  have hnm := (name_of_methodNamed Bd.named Bd.method).1
  have X0 : Stand p l e own_room1 s m #[(.int p0), (.int p1), (.int p2)] below meth c s₁ [] 0 0 := Stand.of_body Bd
  have e0 : s₁.heap = h0 := by rw [← hh, Bd.state]; rfl
  have N0 := Fr.nil n0
  refine own_enter (ef_1 m p0 p1 p2) ?_
  show own_Goes p.tables e below (s₁.setTop (mkF m 0 #[.val (.int p0), .val (.int p1), .val (.int p2), .unset, .unset, .unset, .unset] [])) (own_P s (own_Qp (some (.int (own_f1 p0 p1 p2))) h0) own_room1.cells own_room1.slots)
  refine own_step (fun _ => XS.iloadN X0.here hx rfl (hb hby d1_0) rfl) ?_
  show own_Goes p.tables e below (s₁.setTop (mkF m 1 #[.val (.int p0), .val (.int p1), .val (.int p2), .unset, .unset, .unset, .unset] [(.int p0)])) _
  refine own_step (fun _ => XS.istoreN X0.here hx rfl (hb hby d1_1) rfl (l' := #[.val (.int p0), .val (.int p1), .val (.int p2), .val (.int p0), .unset, .unset, .unset]) rfl) ?_
  show own_Goes p.tables e below (s₁.setTop (mkF m 2 #[.val (.int p0), .val (.int p1), .val (.int p2), .val (.int p0), .unset, .unset, .unset] [])) _
  refine own_step (fun _ => XS.iloadN X0.here hx rfl (hb hby d1_2) rfl) ?_
  show own_Goes p.tables e below (s₁.setTop (mkF m 3 #[.val (.int p0), .val (.int p1), .val (.int p2), .val (.int p0), .unset, .unset, .unset] [(.int p0)])) _
  refine own_step (fun _ => XS.bipush X0.here hx rfl (hb hby d1_3)) ?_
  show own_Goes p.tables e below (s₁.setTop (mkF m 5 #[.val (.int p0), .val (.int p1), .val (.int p2), .val (.int p0), .unset, .unset, .unset] [(.int (64 : Int32)), (.int p0)])) _
  have J25 : ∀ (T_25 : State) (X_25 : Stand p l e own_room1 s m #[(.int p0), (.int p1), (.int p2)] below meth c T_25 [] 0 0) (e_25 : T_25.heap = h0) (v25_t0 : Int32), own_Goes p.tables e below (T_25.setTop (mkF m 25 #[.val (.int p0), .val (.int p1), .val (.int p2), .val (.int p0), .unset, .unset, .unset] [(.int v25_t0)])) (own_P s (own_Qp (some (.int (own_f1_25 p0 p1 p2 v25_t0))) h0) own_room1.cells own_room1.slots) := by
    intro T_25 X_25 e_25 v25_t0
    refine own_step (fun _ => XS.istore X_25.here hx rfl (hb hby d1_25) rfl (l' := #[.val (.int p0), .val (.int p1), .val (.int p2), .val (.int p0), .val (.int v25_t0), .unset, .unset]) rfl) ?_
    show own_Goes p.tables e below (T_25.setTop (mkF m 27 #[.val (.int p0), .val (.int p1), .val (.int p2), .val (.int p0), .val (.int v25_t0), .unset, .unset] [])) _
    refine own_step (fun _ => XS.iloadN X_25.here hx rfl (hb hby d1_27) rfl) ?_
    show own_Goes p.tables e below (T_25.setTop (mkF m 28 #[.val (.int p0), .val (.int p1), .val (.int p2), .val (.int p0), .val (.int v25_t0), .unset, .unset] [(.int p0)])) _
    refine own_step (fun _ => XS.sipush X_25.here hx rfl (hb hby d1_28)) ?_
    show own_Goes p.tables e below (T_25.setTop (mkF m 31 #[.val (.int p0), .val (.int p1), .val (.int p2), .val (.int p0), .val (.int v25_t0), .unset, .unset] [(.int (133 : Int32)), (.int p0)])) _
    have J46 : ∀ (T_46 : State) (X_46 : Stand p l e own_room1 s m #[(.int p0), (.int p1), (.int p2)] below meth c T_46 [] 0 0) (e_46 : T_46.heap = h0) (v46_t0 : Int32), own_Goes p.tables e below (T_46.setTop (mkF m 46 #[.val (.int p0), .val (.int p1), .val (.int p2), .val (.int p0), .val (.int v25_t0), .unset, .unset] [(.int v46_t0)])) (own_P s (own_Qp (some (.int (own_f1_46 p0 p1 p2 v25_t0 v46_t0))) h0) own_room1.cells own_room1.slots) := by
      intro T_46 X_46 e_46 v46_t0
      refine own_step (fun _ => XS.istore X_46.here hx rfl (hb hby d1_46) rfl (l' := #[.val (.int p0), .val (.int p1), .val (.int p2), .val (.int p0), .val (.int v25_t0), .val (.int v46_t0), .unset]) rfl) ?_
      show own_Goes p.tables e below (T_46.setTop (mkF m 48 #[.val (.int p0), .val (.int p1), .val (.int p2), .val (.int p0), .val (.int v25_t0), .val (.int v46_t0), .unset] [])) _
      refine own_step (fun _ => XS.iload X_46.here hx rfl (hb hby d1_48) rfl) ?_
      show own_Goes p.tables e below (T_46.setTop (mkF m 50 #[.val (.int p0), .val (.int p1), .val (.int p2), .val (.int p0), .val (.int v25_t0), .val (.int v46_t0), .unset] [(.int v25_t0)])) _
      have J77 : ∀ (T_77 : State) (X_77 : Stand p l e own_room1 s m #[(.int p0), (.int p1), (.int p2)] below meth c T_77 [] 0 0) (e_77 : T_77.heap = h0) (v77_l6 : Int32), own_Goes p.tables e below (T_77.setTop (mkF m 77 #[.val (.int p0), .val (.int p1), .val (.int p2), .val (.int p0), .val (.int v25_t0), .val (.int v46_t0), .val (.int v77_l6)] [])) (own_P s (own_Qp (some (.int (own_f1_77 p0 p1 p2 v77_l6))) h0) own_room1.cells own_room1.slots) := by
        intro T_77 X_77 e_77 v77_l6
        refine own_step (fun _ => XS.iloadN X_77.here hx rfl (hb hby d1_77) rfl) ?_
        show own_Goes p.tables e below (T_77.setTop (mkF m 78 #[.val (.int p0), .val (.int p1), .val (.int p2), .val (.int p0), .val (.int v25_t0), .val (.int v46_t0), .val (.int v77_l6)] [(.int p0)])) _
        refine own_step (fun _ => XS.iloadN X_77.here hx rfl (hb hby d1_78) rfl) ?_
        show own_Goes p.tables e below (T_77.setTop (mkF m 79 #[.val (.int p0), .val (.int p1), .val (.int p2), .val (.int p0), .val (.int v25_t0), .val (.int v46_t0), .val (.int v77_l6)] [(.int p1), (.int p0)])) _
        refine own_step (fun _ => XS.iloadN X_77.here hx rfl (hb hby d1_79) rfl) ?_
        show own_Goes p.tables e below (T_77.setTop (mkF m 80 #[.val (.int p0), .val (.int p1), .val (.int p2), .val (.int p0), .val (.int v25_t0), .val (.int v46_t0), .val (.int v77_l6)] [(.int p2), (.int p1), (.int p0)])) _
        obtain ⟨_, _, ⟨T1, L1, k1, n1⟩, -, X1, ⟨Lc1, hQ1, l1, y1, z1⟩, st1⟩ := Jvm.LawKit.callS X_77 hx (y := (⟨"com/example/bede/bede/cli/SkippedReferences", "isWhiteSpace", "(CZZ)Z"⟩ : MethodName)) hown (mvT hZ (hw _ (List.mem_of_getElem? (i := 5) rfl))) (mvT hZ (hw _ (List.mem_of_getElem? (i := 6) rfl))) (mvT hZ (hw _ (List.mem_of_getElem? (i := 7) rfl))) (mvT hZ (hw _ (List.mem_of_getElem? (i := 8) rfl))) (by decide) (backOf (W := 0) (rm2 l Z a0 hw [] p0 p1 p2 h0 n0 Z0) hZ (hw _ (List.mem_of_getElem? (i := 8) rfl)) (hw _ (List.mem_of_getElem? (i := 7) rfl)) (by decide) (by decide)) (g := (mkF m 80 #[.val (.int p0), .val (.int p1), .val (.int p2), .val (.int p0), .val (.int v25_t0), .val (.int v46_t0), .val (.int v77_l6)] [(.int p2), (.int p1), (.int p0)])) rfl (by rw [hml]; rfl) (argsL := [(.int p0), (.int p1), (.int p2)]) (rest := []) (lenOf pd_1_0 rfl) rfl (by show 2 * 0 + _ ≤ _; exact Nat.le_of_eq rfl) (hb hby d1_80) (fun _ _ => ⟨rfl, e_77, (by decide : 0 + 0 ≤ _), (by decide : 0 + 0 ≤ _)⟩)
        dsimp only [Pt.U, Pt.locs, Pt.cells, Pt.slots] at X1 l1 y1 z1 st1 hQ1
        subst l1 y1 z1
        obtain ⟨rfl, rfl, e1⟩ := hQ1
        have X1 : Stand p l e own_room1 s m #[(.int p0), (.int p1), (.int p2)] below meth c T1 [] 0 0 := own_flat X1
        refine own_step (st1) ?_
        show own_Goes p.tables e below (T1.setTop (mkF m 83 #[.val (.int p0), .val (.int p1), .val (.int p2), .val (.int p0), .val (.int v25_t0), .val (.int v46_t0), .val (.int v77_l6)] [(.int (own_f2 p0 p1 p2))])) _
        refine own_step (fun _ => XS.iload X1.here hx rfl (hb hby d1_83) rfl) ?_
        show own_Goes p.tables e below (T1.setTop (mkF m 85 #[.val (.int p0), .val (.int p1), .val (.int p2), .val (.int p0), .val (.int v25_t0), .val (.int v46_t0), .val (.int v77_l6)] [(.int v77_l6), (.int (own_f2 p0 p1 p2))])) _
        by_cases hc85 : (own_f2 p0 p1 p2) = v77_l6
        · refine own_step (fun _ => XS.icmpNo X1.here hx rfl (hb hby d1_85) rfl (Jvm.Free.XT.ii_ne_f hc85)) ?_
          show own_Goes p.tables e below (T1.setTop (mkF m 88 #[.val (.int p0), .val (.int p1), .val (.int p2), .val (.int p0), .val (.int v25_t0), .val (.int v46_t0), .val (.int v77_l6)] [])) _
          refine own_step (fun _ => XS.iconst X1.here hx rfl (hb hby d1_88)) ?_
          show own_Goes p.tables e below (T1.setTop (mkF m 89 #[.val (.int p0), .val (.int p1), .val (.int p2), .val (.int p0), .val (.int v25_t0), .val (.int v46_t0), .val (.int v77_l6)] [(.int (1 : Int32))])) _
          refine own_step (fun _ => XS.goto X1.here hx rfl (pc0 := 89) (pc' := 93) rfl (hb hby d1_89) (by decide) (by decide)) ?_
          show own_Goes p.tables e below (T1.setTop (mkF m 93 #[.val (.int p0), .val (.int p1), .val (.int p2), .val (.int p0), .val (.int v25_t0), .val (.int v46_t0), .val (.int v77_l6)] [(.int (1 : Int32))])) _
          have hv : (own_f1_77 p0 p1 p2 v77_l6) = (1 : Int32) := by exact (if_pos hc85)
          rw [hv]
          exact own_retN X1 hx (t := .boolean) Bd.returns (by simp) (hb hby d1_93) (BodyLoose.notSynchronized Bd) (w := (1 : Int32)) rfl ⟨rfl, rfl, e1⟩ (by decide) (by decide)
        · refine own_step (fun _ => XS.icmpYes X1.here hx rfl (pc0 := 85) (pc' := 92) rfl (hb hby d1_85) rfl (Jvm.Free.XT.ii_ne_t hc85) (by decide) (by decide)) ?_
          show own_Goes p.tables e below (T1.setTop (mkF m 92 #[.val (.int p0), .val (.int p1), .val (.int p2), .val (.int p0), .val (.int v25_t0), .val (.int v46_t0), .val (.int v77_l6)] [])) _
          refine own_step (fun _ => XS.iconst X1.here hx rfl (hb hby d1_92)) ?_
          show own_Goes p.tables e below (T1.setTop (mkF m 93 #[.val (.int p0), .val (.int p1), .val (.int p2), .val (.int p0), .val (.int v25_t0), .val (.int v46_t0), .val (.int v77_l6)] [(.int (0 : Int32))])) _
          have hv : (own_f1_77 p0 p1 p2 v77_l6) = (0 : Int32) := by exact (if_neg hc85)
          rw [hv]
          exact own_retN X1 hx (t := .boolean) Bd.returns (by simp) (hb hby d1_93) (BodyLoose.notSynchronized Bd) (w := (0 : Int32)) rfl ⟨rfl, rfl, e1⟩ (by decide) (by decide)
      by_cases hc50 : v25_t0 = 0
      · refine own_step (fun _ => XS.ifYes X_46.here hx rfl (pc0 := 50) (pc' := 59) rfl (hb hby d1_50) rfl (Jvm.Free.XT.i0_eq_t hc50) (by decide) (by decide)) ?_
        show own_Goes p.tables e below (T_46.setTop (mkF m 59 #[.val (.int p0), .val (.int p1), .val (.int p2), .val (.int p0), .val (.int v25_t0), .val (.int v46_t0), .unset] [])) _
        refine own_step (fun _ => XS.iloadN X_46.here hx rfl (hb hby d1_59) rfl) ?_
        show own_Goes p.tables e below (T_46.setTop (mkF m 60 #[.val (.int p0), .val (.int p1), .val (.int p2), .val (.int p0), .val (.int v25_t0), .val (.int v46_t0), .unset] [(.int p1)])) _
        have J74 : ∀ (T_74 : State) (X_74 : Stand p l e own_room1 s m #[(.int p0), (.int p1), (.int p2)] below meth c T_74 [] 0 0) (e_74 : T_74.heap = h0), own_Goes p.tables e below (T_74.setTop (mkF m 74 #[.val (.int p0), .val (.int p1), .val (.int p2), .val (.int p0), .val (.int v25_t0), .val (.int v46_t0), .unset] [])) (own_P s (own_Qp (some (.int (own_f1_74 p0 p1 p2))) h0) own_room1.cells own_room1.slots) := by
          intro T_74 X_74 e_74
          refine own_step (fun _ => XS.iconst X_74.here hx rfl (hb hby d1_74)) ?_
          show own_Goes p.tables e below (T_74.setTop (mkF m 75 #[.val (.int p0), .val (.int p1), .val (.int p2), .val (.int p0), .val (.int v25_t0), .val (.int v46_t0), .unset] [(.int (0 : Int32))])) _
          refine own_step (fun _ => XS.istore X_74.here hx rfl (hb hby d1_75) rfl (l' := #[.val (.int p0), .val (.int p1), .val (.int p2), .val (.int p0), .val (.int v25_t0), .val (.int v46_t0), .val (.int (0 : Int32))]) rfl) ?_
          show own_Goes p.tables e below (T_74.setTop (mkF m 77 #[.val (.int p0), .val (.int p1), .val (.int p2), .val (.int p0), .val (.int v25_t0), .val (.int v46_t0), .val (.int (0 : Int32))] [])) _
          have hv : (own_f1_74 p0 p1 p2) = (own_f1_77 p0 p1 p2 (0 : Int32)) := by exact rfl
          rw [hv]
          exact J77 T_74 X_74 e_74 (0 : Int32)
        by_cases hc60 : p1 = 0
        · refine own_step (fun _ => XS.ifYes X_46.here hx rfl (pc0 := 60) (pc' := 74) rfl (hb hby d1_60) rfl (Jvm.Free.XT.i0_eq_t hc60) (by decide) (by decide)) ?_
          show own_Goes p.tables e below (T_46.setTop (mkF m 74 #[.val (.int p0), .val (.int p1), .val (.int p2), .val (.int p0), .val (.int v25_t0), .val (.int v46_t0), .unset] [])) _
          have hv : (own_f1_46 p0 p1 p2 v25_t0 v46_t0) = (own_f1_74 p0 p1 p2) := by exact ((if_pos hc50)).trans (if_pos hc60)
          rw [hv]
          exact J74 T_46 X_46 e_46
        · refine own_step (fun _ => XS.ifNo X_46.here hx rfl (hb hby d1_60) rfl (Jvm.Free.XT.i0_eq_f hc60)) ?_
          show own_Goes p.tables e below (T_46.setTop (mkF m 63 #[.val (.int p0), .val (.int p1), .val (.int p2), .val (.int p0), .val (.int v25_t0), .val (.int v46_t0), .unset] [])) _
          refine own_step (fun _ => XS.iloadN X_46.here hx rfl (hb hby d1_63) rfl) ?_
          show own_Goes p.tables e below (T_46.setTop (mkF m 64 #[.val (.int p0), .val (.int p1), .val (.int p2), .val (.int p0), .val (.int v25_t0), .val (.int v46_t0), .unset] [(.int p2)])) _
          by_cases hc64 : p2 = 0
          · refine own_step (fun _ => XS.ifYes X_46.here hx rfl (pc0 := 64) (pc' := 74) rfl (hb hby d1_64) rfl (Jvm.Free.XT.i0_eq_t hc64) (by decide) (by decide)) ?_
            show own_Goes p.tables e below (T_46.setTop (mkF m 74 #[.val (.int p0), .val (.int p1), .val (.int p2), .val (.int p0), .val (.int v25_t0), .val (.int v46_t0), .unset] [])) _
            have hv : (own_f1_46 p0 p1 p2 v25_t0 v46_t0) = (own_f1_74 p0 p1 p2) := by exact (((if_pos hc50)).trans (if_neg hc60)).trans (if_pos hc64)
            rw [hv]
            exact J74 T_46 X_46 e_46
          · refine own_step (fun _ => XS.ifNo X_46.here hx rfl (hb hby d1_64) rfl (Jvm.Free.XT.i0_eq_f hc64)) ?_
            show own_Goes p.tables e below (T_46.setTop (mkF m 67 #[.val (.int p0), .val (.int p1), .val (.int p2), .val (.int p0), .val (.int v25_t0), .val (.int v46_t0), .unset] [])) _
            refine own_step (fun _ => XS.iload X_46.here hx rfl (hb hby d1_67) rfl) ?_
            show own_Goes p.tables e below (T_46.setTop (mkF m 69 #[.val (.int p0), .val (.int p1), .val (.int p2), .val (.int p0), .val (.int v25_t0), .val (.int v46_t0), .unset] [(.int v46_t0)])) _
            refine own_step (fun _ => XS.istore X_46.here hx rfl (hb hby d1_69) rfl (l' := #[.val (.int p0), .val (.int p1), .val (.int p2), .val (.int p0), .val (.int v25_t0), .val (.int v46_t0), .val (.int v46_t0)]) rfl) ?_
            show own_Goes p.tables e below (T_46.setTop (mkF m 71 #[.val (.int p0), .val (.int p1), .val (.int p2), .val (.int p0), .val (.int v25_t0), .val (.int v46_t0), .val (.int v46_t0)] [])) _
            refine own_step (fun _ => XS.goto X_46.here hx rfl (pc0 := 71) (pc' := 77) rfl (hb hby d1_71) (by decide) (by decide)) ?_
            show own_Goes p.tables e below (T_46.setTop (mkF m 77 #[.val (.int p0), .val (.int p1), .val (.int p2), .val (.int p0), .val (.int v25_t0), .val (.int v46_t0), .val (.int v46_t0)] [])) _
            have hv : (own_f1_46 p0 p1 p2 v25_t0 v46_t0) = (own_f1_77 p0 p1 p2 v46_t0) := by exact (((if_pos hc50)).trans (if_neg hc60)).trans (if_neg hc64)
            rw [hv]
            exact J77 T_46 X_46 e_46 v46_t0
      · refine own_step (fun _ => XS.ifNo X_46.here hx rfl (hb hby d1_50) rfl (Jvm.Free.XT.i0_eq_f hc50)) ?_
        show own_Goes p.tables e below (T_46.setTop (mkF m 53 #[.val (.int p0), .val (.int p1), .val (.int p2), .val (.int p0), .val (.int v25_t0), .val (.int v46_t0), .unset] [])) _
        refine own_step (fun _ => XS.iconst X_46.here hx rfl (hb hby d1_53)) ?_
        show own_Goes p.tables e below (T_46.setTop (mkF m 54 #[.val (.int p0), .val (.int p1), .val (.int p2), .val (.int p0), .val (.int v25_t0), .val (.int v46_t0), .unset] [(.int (1 : Int32))])) _
        refine own_step (fun _ => XS.istore X_46.here hx rfl (hb hby d1_54) rfl (l' := #[.val (.int p0), .val (.int p1), .val (.int p2), .val (.int p0), .val (.int v25_t0), .val (.int v46_t0), .val (.int (1 : Int32))]) rfl) ?_
        show own_Goes p.tables e below (T_46.setTop (mkF m 56 #[.val (.int p0), .val (.int p1), .val (.int p2), .val (.int p0), .val (.int v25_t0), .val (.int v46_t0), .val (.int (1 : Int32))] [])) _
        refine own_step (fun _ => XS.goto X_46.here hx rfl (pc0 := 56) (pc' := 77) rfl (hb hby d1_56) (by decide) (by decide)) ?_
        show own_Goes p.tables e below (T_46.setTop (mkF m 77 #[.val (.int p0), .val (.int p1), .val (.int p2), .val (.int p0), .val (.int v25_t0), .val (.int v46_t0), .val (.int (1 : Int32))] [])) _
        have hv : (own_f1_46 p0 p1 p2 v25_t0 v46_t0) = (own_f1_77 p0 p1 p2 (1 : Int32)) := by exact (if_neg hc50)
        rw [hv]
        exact J77 T_46 X_46 e_46 (1 : Int32)
    have J41 : ∀ (T_41 : State) (X_41 : Stand p l e own_room1 s m #[(.int p0), (.int p1), (.int p2)] below meth c T_41 [] 0 0) (e_41 : T_41.heap = h0), own_Goes p.tables e below (T_41.setTop (mkF m 41 #[.val (.int p0), .val (.int p1), .val (.int p2), .val (.int p0), .val (.int v25_t0), .unset, .unset] [])) (own_P s (own_Qp (some (.int (own_f1_41 p0 p1 p2 v25_t0))) h0) own_room1.cells own_room1.slots) := by
      intro T_41 X_41 e_41
      refine own_step (fun _ => XS.iconst X_41.here hx rfl (hb hby d1_41)) ?_
      show own_Goes p.tables e below (T_41.setTop (mkF m 42 #[.val (.int p0), .val (.int p1), .val (.int p2), .val (.int p0), .val (.int v25_t0), .unset, .unset] [(.int (1 : Int32))])) _
      refine own_step (fun _ => XS.goto X_41.here hx rfl (pc0 := 42) (pc' := 46) rfl (hb hby d1_42) (by decide) (by decide)) ?_
      show own_Goes p.tables e below (T_41.setTop (mkF m 46 #[.val (.int p0), .val (.int p1), .val (.int p2), .val (.int p0), .val (.int v25_t0), .unset, .unset] [(.int (1 : Int32))])) _
      have hv : (own_f1_41 p0 p1 p2 v25_t0) = (own_f1_46 p0 p1 p2 v25_t0 (1 : Int32)) := by exact rfl
      rw [hv]
      exact J46 T_41 X_41 e_41 (1 : Int32)
    by_cases hc31 : p0 = (133 : Int32)
    · refine own_step (fun _ => XS.icmpYes X_25.here hx rfl (pc0 := 31) (pc' := 41) rfl (hb hby d1_31) rfl (Jvm.Free.XT.ii_eq_t hc31) (by decide) (by decide)) ?_
      show own_Goes p.tables e below (T_25.setTop (mkF m 41 #[.val (.int p0), .val (.int p1), .val (.int p2), .val (.int p0), .val (.int v25_t0), .unset, .unset] [])) _
      have hv : (own_f1_25 p0 p1 p2 v25_t0) = (own_f1_41 p0 p1 p2 v25_t0) := by exact (if_pos hc31)
      rw [hv]
      exact J41 T_25 X_25 e_25
    · refine own_step (fun _ => XS.icmpNo X_25.here hx rfl (hb hby d1_31) rfl (Jvm.Free.XT.ii_eq_f hc31)) ?_
      show own_Goes p.tables e below (T_25.setTop (mkF m 34 #[.val (.int p0), .val (.int p1), .val (.int p2), .val (.int p0), .val (.int v25_t0), .unset, .unset] [])) _
      refine own_step (fun _ => XS.iloadN X_25.here hx rfl (hb hby d1_34) rfl) ?_
      show own_Goes p.tables e below (T_25.setTop (mkF m 35 #[.val (.int p0), .val (.int p1), .val (.int p2), .val (.int p0), .val (.int v25_t0), .unset, .unset] [(.int p0)])) _
      refine own_step (fun _ => XS.sipush X_25.here hx rfl (hb hby d1_35)) ?_
      show own_Goes p.tables e below (T_25.setTop (mkF m 38 #[.val (.int p0), .val (.int p1), .val (.int p2), .val (.int p0), .val (.int v25_t0), .unset, .unset] [(.int (8232 : Int32)), (.int p0)])) _
      by_cases hc38 : p0 = (8232 : Int32)
      · refine own_step (fun _ => XS.icmpNo X_25.here hx rfl (hb hby d1_38) rfl (Jvm.Free.XT.ii_ne_f hc38)) ?_
        show own_Goes p.tables e below (T_25.setTop (mkF m 41 #[.val (.int p0), .val (.int p1), .val (.int p2), .val (.int p0), .val (.int v25_t0), .unset, .unset] [])) _
        have hv : (own_f1_25 p0 p1 p2 v25_t0) = (own_f1_41 p0 p1 p2 v25_t0) := by exact ((if_neg hc31)).trans (if_pos hc38)
        rw [hv]
        exact J41 T_25 X_25 e_25
      · refine own_step (fun _ => XS.icmpYes X_25.here hx rfl (pc0 := 38) (pc' := 45) rfl (hb hby d1_38) rfl (Jvm.Free.XT.ii_ne_t hc38) (by decide) (by decide)) ?_
        show own_Goes p.tables e below (T_25.setTop (mkF m 45 #[.val (.int p0), .val (.int p1), .val (.int p2), .val (.int p0), .val (.int v25_t0), .unset, .unset] [])) _
        refine own_step (fun _ => XS.iconst X_25.here hx rfl (hb hby d1_45)) ?_
        show own_Goes p.tables e below (T_25.setTop (mkF m 46 #[.val (.int p0), .val (.int p1), .val (.int p2), .val (.int p0), .val (.int v25_t0), .unset, .unset] [(.int (0 : Int32))])) _
        have hv : (own_f1_25 p0 p1 p2 v25_t0) = (own_f1_46 p0 p1 p2 v25_t0 (0 : Int32)) := by exact ((if_neg hc31)).trans (if_neg hc38)
        rw [hv]
        exact J46 T_25 X_25 e_25 (0 : Int32)
  have J24 : ∀ (T_24 : State) (X_24 : Stand p l e own_room1 s m #[(.int p0), (.int p1), (.int p2)] below meth c T_24 [] 0 0) (e_24 : T_24.heap = h0), own_Goes p.tables e below (T_24.setTop (mkF m 24 #[.val (.int p0), .val (.int p1), .val (.int p2), .val (.int p0), .unset, .unset, .unset] [])) (own_P s (own_Qp (some (.int (own_f1_24 p0 p1 p2))) h0) own_room1.cells own_room1.slots) := by
    intro T_24 X_24 e_24
    refine own_step (fun _ => XS.iconst X_24.here hx rfl (hb hby d1_24)) ?_
    show own_Goes p.tables e below (T_24.setTop (mkF m 25 #[.val (.int p0), .val (.int p1), .val (.int p2), .val (.int p0), .unset, .unset, .unset] [(.int (0 : Int32))])) _
    have hv : (own_f1_24 p0 p1 p2) = (own_f1_25 p0 p1 p2 (0 : Int32)) := by exact rfl
    rw [hv]
    exact J25 T_24 X_24 e_24 (0 : Int32)
  by_cases hc5 : p0 < (64 : Int32)
  · refine own_step (fun _ => XS.icmpNo X0.here hx rfl (hb hby d1_5) rfl (Jvm.Free.XT.ii_ge_f hc5)) ?_
    show own_Goes p.tables e below (s₁.setTop (mkF m 8 #[.val (.int p0), .val (.int p1), .val (.int p2), .val (.int p0), .unset, .unset, .unset] [])) _
    refine own_step (X0.ldc2Long hx hown (mvT hZ (hw _ (List.mem_of_getElem? (i := 4) rfl))) (g := (mkF m 8 #[.val (.int p0), .val (.int p1), .val (.int p2), .val (.int p0), .unset, .unset, .unset] [])) rfl (hb hby d1_8)) ?_
    show own_Goes p.tables e below (s₁.setTop (mkF m 11 #[.val (.int p0), .val (.int p1), .val (.int p2), .val (.int p0), .unset, .unset, .unset] [(.long (4294977024 : Int64))])) _
    refine own_step (fun _ => XS.iloadN X0.here hx rfl (hb hby d1_11) rfl) ?_
    show own_Goes p.tables e below (s₁.setTop (mkF m 12 #[.val (.int p0), .val (.int p1), .val (.int p2), .val (.int p0), .unset, .unset, .unset] [(.int p0), (.long (4294977024 : Int64))])) _
    refine own_step (fun _ => XS.lushr X0.here hx rfl (hb hby d1_12) rfl) ?_
    show own_Goes p.tables e below (s₁.setTop (mkF m 13 #[.val (.int p0), .val (.int p1), .val (.int p2), .val (.int p0), .unset, .unset, .unset] [(.long (((4294977024 : Int64).toUInt64 >>> (p0 &&& 0x3f).toInt64.toUInt64).toInt64))])) _
    refine own_step (fun _ => XS.lconst X0.here hx rfl (hb hby d1_13)) ?_
    show own_Goes p.tables e below (s₁.setTop (mkF m 14 #[.val (.int p0), .val (.int p1), .val (.int p2), .val (.int p0), .unset, .unset, .unset] [(.long (1 : Int64)), (.long (((4294977024 : Int64).toUInt64 >>> (p0 &&& 0x3f).toInt64.toUInt64).toInt64))])) _
    refine own_step (fun _ => XS.land X0.here hx rfl (hb hby d1_14) rfl) ?_
    show own_Goes p.tables e below (s₁.setTop (mkF m 15 #[.val (.int p0), .val (.int p1), .val (.int p2), .val (.int p0), .unset, .unset, .unset] [(.long ((((4294977024 : Int64).toUInt64 >>> (p0 &&& 0x3f).toInt64.toUInt64).toInt64) &&& (1 : Int64)))])) _
    refine own_step (fun _ => XS.lconst X0.here hx rfl (hb hby d1_15)) ?_
    show own_Goes p.tables e below (s₁.setTop (mkF m 16 #[.val (.int p0), .val (.int p1), .val (.int p2), .val (.int p0), .unset, .unset, .unset] [(.long (0 : Int64)), (.long ((((4294977024 : Int64).toUInt64 >>> (p0 &&& 0x3f).toInt64.toUInt64).toInt64) &&& (1 : Int64)))])) _
    refine own_step (fun _ => Jvm.Free.XT.lcmp X0.here hx rfl (hb hby d1_16) rfl) ?_
    show own_Goes p.tables e below (s₁.setTop (mkF m 17 #[.val (.int p0), .val (.int p1), .val (.int p2), .val (.int p0), .unset, .unset, .unset] [(.int (Jvm.Free.XT.cmpL ((((4294977024 : Int64).toUInt64 >>> (p0 &&& 0x3f).toInt64.toUInt64).toInt64) &&& (1 : Int64)) (0 : Int64)))])) _
    by_cases hc17 : ((((4294977024 : Int64).toUInt64 >>> (p0 &&& 0x3f).toInt64.toUInt64).toInt64) &&& (1 : Int64)) = (0 : Int64)
    · refine own_step (fun _ => XS.ifYes X0.here hx rfl (pc0 := 17) (pc' := 24) rfl (hb hby d1_17) rfl (Jvm.Free.XT.ll_eq_t hc17) (by decide) (by decide)) ?_
      show own_Goes p.tables e below (s₁.setTop (mkF m 24 #[.val (.int p0), .val (.int p1), .val (.int p2), .val (.int p0), .unset, .unset, .unset] [])) _
      have hv : (own_f1 p0 p1 p2) = (own_f1_24 p0 p1 p2) := by exact ((if_pos hc5)).trans (if_pos hc17)
      rw [hv]
      exact J24 s₁ X0 e0
    · refine own_step (fun _ => XS.ifNo X0.here hx rfl (hb hby d1_17) rfl (Jvm.Free.XT.ll_eq_f hc17)) ?_
      show own_Goes p.tables e below (s₁.setTop (mkF m 20 #[.val (.int p0), .val (.int p1), .val (.int p2), .val (.int p0), .unset, .unset, .unset] [])) _
      refine own_step (fun _ => XS.iconst X0.here hx rfl (hb hby d1_20)) ?_
      show own_Goes p.tables e below (s₁.setTop (mkF m 21 #[.val (.int p0), .val (.int p1), .val (.int p2), .val (.int p0), .unset, .unset, .unset] [(.int (1 : Int32))])) _
      refine own_step (fun _ => XS.goto X0.here hx rfl (pc0 := 21) (pc' := 25) rfl (hb hby d1_21) (by decide) (by decide)) ?_
      show own_Goes p.tables e below (s₁.setTop (mkF m 25 #[.val (.int p0), .val (.int p1), .val (.int p2), .val (.int p0), .unset, .unset, .unset] [(.int (1 : Int32))])) _
      have hv : (own_f1 p0 p1 p2) = (own_f1_25 p0 p1 p2 (1 : Int32)) := by exact ((if_pos hc5)).trans (if_neg hc17)
      rw [hv]
      exact J25 s₁ X0 e0 (1 : Int32)
  · refine own_step (fun _ => XS.icmpYes X0.here hx rfl (pc0 := 5) (pc' := 24) rfl (hb hby d1_5) rfl (Jvm.Free.XT.ii_ge_t hc5) (by decide) (by decide)) ?_
    show own_Goes p.tables e below (s₁.setTop (mkF m 24 #[.val (.int p0), .val (.int p1), .val (.int p2), .val (.int p0), .unset, .unset, .unset] [])) _
    have hv : (own_f1 p0 p1 p2) = (own_f1_24 p0 p1 p2) := by exact (if_neg hc5)
    rw [hv]
    exact J24 s₁ X0 e0
theorem pn_0 : plainName "com/example/bede/bede/cli/SkippedReferencesIsWhiteSpacePinLaw" = true := by first | (simp [plainName, overriddenIn]; done) | decide +kernel
theorem pd_0_0 : parseMethodDescriptor "(CZZ)Z" = some ⟨[.char, .boolean, .boolean], some .boolean⟩ := by decide +kernel
theorem pd_0_1 : parseMethodDescriptor "(I)C" = some ⟨[.int], some .char⟩ := by decide +kernel
theorem ef_0 (m : MethodId) (p0 : Int32) (p1 : Int32) : entryFrame m #[(.int p0), (.int p1)] maxLocals = mkF m 0 #[.val (.int p0), .val (.int p1), .unset] [] := by first | (simp [entryFrame, mkF, argsToLocals, Value.category, maxLocals]; done) | rfl
def own_f0_62 : Int32 :=
  (0 : Int32)
def own_f0_22 (v22_l2 : Int32) : Int32 :=
  if (own_f1 v22_l2 (0 : Int32) (0 : Int32)) = 0 then
    (own_f0_62)
  else
    if (own_f1 v22_l2 (0 : Int32) (1 : Int32)) = 0 then
      (own_f0_62)
    else
      if (own_f1 v22_l2 (1 : Int32) (0 : Int32)) = 0 then
        (own_f0_62)
      else
        if (own_f1 v22_l2 (1 : Int32) (1 : Int32)) = 0 then
          (own_f0_62)
        else
          (1 : Int32)
def own_f0 (p0 : Int32) (p1 : Int32) : Int32 :=
  if (p0 &&& (1 : Int32)) = 0 then
    (own_f0_22 (p1.toUInt32.toUInt16.toUInt32.toInt32))
  else
    let z21 : Int32 := (own_f3 (((p0.toUInt32 >>> ((1 : Int32) &&& 31).toUInt32).toInt32) &&& (7 : Int32)))
    (own_f0_22 z21)
set_option maxRecDepth 65536 in
set_option maxHeartbeats 40000000 in
theorem rm0 (l : Launch) (Z : State) (a0 : Array Value) (hw : ∀ d ∈ tables_1, d.before a0 Z = true) (ws : List Jvm.Cond) (p0 : Int32) (p1 : Int32) (h0 : Heap) (n0 : Nat) (Z0 : n0 ≤ h0.size) :
    MetFree l x (head1 (Jvm.Cond.code x code maxLocals ret :: ws) room_1) (fun a U => a = #[(.int p0), (.int p1)] ∧ Z.Warmed39 U.vm ∧ U.heap = h0) (fun _ _ _ _ _ => True) (fun _ U o U' => ∃ v L, o = .returned v ∧ own_Ql (some (.int (own_f0 p0 p1))) n0 v U'.heap L ∧ FrameEnd U o U' L 1 8) := by
  refine MetFree.of_bodySF (plainFor_of_name pn_0) hisR ?_
  intro p e s m args below meth c s₁ Bd hml0 hP hK
  obtain ⟨rfl, hZ, hh⟩ := hP
  have hx := Bd.exec
  have hby := Bd.bytes
  have hml : c.maxLocals = 3 := hml0
  have hown : s.vm.findClass "com/example/bede/bede/cli/SkippedReferencesIsWhiteSpacePinLaw" = some m.cls := findClass_of_methodNamed Bd.named
  have hnm := (name_of_methodNamed Bd.named Bd.method).1
  have X0 : Stand p l e room_1 s m #[(.int p0), (.int p1)] below meth c s₁ [] 0 0 := Stand.of_body Bd
  have e0 : s₁.heap = h0 := by rw [← hh, Bd.state]; rfl
  have N0 := Fr.nil n0
  refine own_enter (ef_0 m p0 p1) ?_
  show own_Goes p.tables e below (s₁.setTop (mkF m 0 #[.val (.int p0), .val (.int p1), .unset] [])) (own_P s (own_Ql (some (.int (own_f0 p0 p1))) n0) 1 8)
  refine own_step (fun _ => XS.iloadN X0.here hx rfl (hb hby at_0) rfl) ?_
  show own_Goes p.tables e below (s₁.setTop (mkF m 1 #[.val (.int p0), .val (.int p1), .unset] [(.int p0)])) _
  refine own_step (fun _ => XS.iconst X0.here hx rfl (hb hby at_1)) ?_
  show own_Goes p.tables e below (s₁.setTop (mkF m 2 #[.val (.int p0), .val (.int p1), .unset] [(.int (1 : Int32)), (.int p0)])) _
  refine own_step (fun _ => XS.iand X0.here hx rfl (hb hby at_2) rfl) ?_
  show own_Goes p.tables e below (s₁.setTop (mkF m 3 #[.val (.int p0), .val (.int p1), .unset] [(.int (p0 &&& (1 : Int32)))])) _
  have J22 : ∀ (T_22 : State) (L_22 : List Loc) (X_22 : Stand p l e room_1 s m #[(.int p0), (.int p1)] below meth c T_22 L_22 1 8) (N_22 : Fr n0 L_22) (K_22 : Keep h0 T_22.heap []) (v22_l2 : Int32), own_Goes p.tables e below (T_22.setTop (mkF m 22 #[.val (.int p0), .val (.int p1), .val (.int v22_l2)] [])) (own_P s (own_Ql (some (.int (own_f0_22 v22_l2))) n0) 1 8) := by
    intro T_22 L_22 X_22 N_22 K_22 v22_l2
    refine own_step (fun _ => XS.iloadN X_22.here hx rfl (hb hby at_22) rfl) ?_
    show own_Goes p.tables e below (T_22.setTop (mkF m 23 #[.val (.int p0), .val (.int p1), .val (.int v22_l2)] [(.int v22_l2)])) _
    refine own_step (fun _ => XS.iconst X_22.here hx rfl (hb hby at_23)) ?_
    show own_Goes p.tables e below (T_22.setTop (mkF m 24 #[.val (.int p0), .val (.int p1), .val (.int v22_l2)] [(.int (0 : Int32)), (.int v22_l2)])) _
    refine own_step (fun _ => XS.iconst X_22.here hx rfl (hb hby at_24)) ?_
    show own_Goes p.tables e below (T_22.setTop (mkF m 25 #[.val (.int p0), .val (.int p1), .val (.int v22_l2)] [(.int (0 : Int32)), (.int (0 : Int32)), (.int v22_l2)])) _
    obtain ⟨_, _, ⟨T1, L1, k1, n1⟩, -, X1, ⟨Lc1, hQ1, l1, y1, z1⟩, st1⟩ := Jvm.LawKit.callS X_22 hx (y := (⟨"com/example/bede/bede/cli/SkippedReferencesIsWhiteSpacePinLaw", "check", "(CZZ)Z"⟩ : MethodName)) hown (mvT hZ (hw _ (List.mem_of_getElem? (i := 0) rfl))) (mvT hZ (hw _ (List.mem_of_getElem? (i := 1) rfl))) (mvT hZ (hw _ (List.mem_of_getElem? (i := 2) rfl))) (mvT hZ (hw _ (List.mem_of_getElem? (i := 3) rfl))) (by decide) (backOf (W := 0) (rm1 l Z a0 hw [] v22_l2 (0 : Int32) (0 : Int32) T_22.heap n0 (Nat.le_trans Z0 K_22.1)) hZ (hw _ (List.mem_of_getElem? (i := 3) rfl)) (hw _ (List.mem_of_getElem? (i := 2) rfl)) (by decide) (by decide)) (g := (mkF m 25 #[.val (.int p0), .val (.int p1), .val (.int v22_l2)] [(.int (0 : Int32)), (.int (0 : Int32)), (.int v22_l2)])) rfl (by rw [hml]; rfl) (argsL := [(.int v22_l2), (.int (0 : Int32)), (.int (0 : Int32))]) (rest := []) (lenOf pd_0_0 rfl) rfl (by show 2 * 0 + _ ≤ _; exact Nat.le_of_eq rfl) (hb hby at_25) (fun _ _ => ⟨rfl, rfl, (by decide : 1 + 0 ≤ _), (by decide : 8 + 0 ≤ _)⟩)
    dsimp only [Pt.U, Pt.locs, Pt.cells, Pt.slots] at X1 l1 y1 z1 st1 hQ1
    subst l1 y1 z1
    obtain ⟨rfl, rfl, e1⟩ := hQ1
    have X1 : Stand p l e room_1 s m #[(.int p0), (.int p1)] below meth c T1 L_22 1 8 := own_flat X1
    refine own_step (st1) ?_
    show own_Goes p.tables e below (T1.setTop (mkF m 28 #[.val (.int p0), .val (.int p1), .val (.int v22_l2)] [(.int (own_f1 v22_l2 (0 : Int32) (0 : Int32)))])) _
    have J62 : ∀ (T_62 : State) (L_62 : List Loc) (X_62 : Stand p l e room_1 s m #[(.int p0), (.int p1)] below meth c T_62 L_62 1 8) (N_62 : Fr n0 L_62) (K_62 : Keep h0 T_62.heap []), own_Goes p.tables e below (T_62.setTop (mkF m 62 #[.val (.int p0), .val (.int p1), .val (.int v22_l2)] [])) (own_P s (own_Ql (some (.int (own_f0_62))) n0) 1 8) := by
      intro T_62 L_62 X_62 N_62 K_62
      refine own_step (fun _ => XS.iconst X_62.here hx rfl (hb hby at_62)) ?_
      show own_Goes p.tables e below (T_62.setTop (mkF m 63 #[.val (.int p0), .val (.int p1), .val (.int v22_l2)] [(.int (0 : Int32))])) _
      have hv : (own_f0_62) = (0 : Int32) := by exact rfl
      rw [hv]
      exact own_retN X_62 hx (t := .boolean) Bd.returns (by simp) (hb hby at_63) (BodyLoose.notSynchronized Bd) (w := (0 : Int32)) rfl ⟨rfl, N_62⟩ (by decide) (by decide)
    by_cases hc28 : (own_f1 v22_l2 (0 : Int32) (0 : Int32)) = 0
    · refine own_step (fun _ => XS.ifYes X1.here hx rfl (pc0 := 28) (pc' := 62) rfl (hb hby at_28) rfl (Jvm.Free.XT.i0_eq_t hc28) (by decide) (by decide)) ?_
      show own_Goes p.tables e below (T1.setTop (mkF m 62 #[.val (.int p0), .val (.int p1), .val (.int v22_l2)] [])) _
      have hv : (own_f0_22 v22_l2) = (own_f0_62) := by exact (if_pos hc28)
      rw [hv]
      exact J62 T1 _ (X1.more (by decide) (by decide)) N_22 (by rw [e1]; exact K_22)
    · refine own_step (fun _ => XS.ifNo X1.here hx rfl (hb hby at_28) rfl (Jvm.Free.XT.i0_eq_f hc28)) ?_
      show own_Goes p.tables e below (T1.setTop (mkF m 31 #[.val (.int p0), .val (.int p1), .val (.int v22_l2)] [])) _
      refine own_step (fun _ => XS.iloadN X1.here hx rfl (hb hby at_31) rfl) ?_
      show own_Goes p.tables e below (T1.setTop (mkF m 32 #[.val (.int p0), .val (.int p1), .val (.int v22_l2)] [(.int v22_l2)])) _
      refine own_step (fun _ => XS.iconst X1.here hx rfl (hb hby at_32)) ?_
      show own_Goes p.tables e below (T1.setTop (mkF m 33 #[.val (.int p0), .val (.int p1), .val (.int v22_l2)] [(.int (0 : Int32)), (.int v22_l2)])) _
      refine own_step (fun _ => XS.iconst X1.here hx rfl (hb hby at_33)) ?_
      show own_Goes p.tables e below (T1.setTop (mkF m 34 #[.val (.int p0), .val (.int p1), .val (.int v22_l2)] [(.int (1 : Int32)), (.int (0 : Int32)), (.int v22_l2)])) _
      obtain ⟨_, _, ⟨T2, L2, k2, n2⟩, -, X2, ⟨Lc2, hQ2, l2, y2, z2⟩, st2⟩ := Jvm.LawKit.callS X1 hx (y := (⟨"com/example/bede/bede/cli/SkippedReferencesIsWhiteSpacePinLaw", "check", "(CZZ)Z"⟩ : MethodName)) hown (mvT hZ (hw _ (List.mem_of_getElem? (i := 0) rfl))) (mvT hZ (hw _ (List.mem_of_getElem? (i := 1) rfl))) (mvT hZ (hw _ (List.mem_of_getElem? (i := 2) rfl))) (mvT hZ (hw _ (List.mem_of_getElem? (i := 3) rfl))) (by decide) (backOf (W := 0) (rm1 l Z a0 hw [] v22_l2 (0 : Int32) (1 : Int32) T_22.heap n0 (Nat.le_trans Z0 K_22.1)) hZ (hw _ (List.mem_of_getElem? (i := 3) rfl)) (hw _ (List.mem_of_getElem? (i := 2) rfl)) (by decide) (by decide)) (g := (mkF m 34 #[.val (.int p0), .val (.int p1), .val (.int v22_l2)] [(.int (1 : Int32)), (.int (0 : Int32)), (.int v22_l2)])) rfl (by rw [hml]; rfl) (argsL := [(.int v22_l2), (.int (0 : Int32)), (.int (1 : Int32))]) (rest := []) (lenOf pd_0_0 rfl) rfl (by show 2 * 0 + _ ≤ _; exact Nat.le_of_eq rfl) (hb hby at_34) (fun _ _ => ⟨rfl, e1, (by decide : 1 + 0 ≤ _), (by decide : 8 + 0 ≤ _)⟩)
      dsimp only [Pt.U, Pt.locs, Pt.cells, Pt.slots] at X2 l2 y2 z2 st2 hQ2
      subst l2 y2 z2
      obtain ⟨rfl, rfl, e2⟩ := hQ2
      have X2 : Stand p l e room_1 s m #[(.int p0), (.int p1)] below meth c T2 L_22 1 8 := own_flat X2
      refine own_step (st2) ?_
      show own_Goes p.tables e below (T2.setTop (mkF m 37 #[.val (.int p0), .val (.int p1), .val (.int v22_l2)] [(.int (own_f1 v22_l2 (0 : Int32) (1 : Int32)))])) _
      by_cases hc37 : (own_f1 v22_l2 (0 : Int32) (1 : Int32)) = 0
      · refine own_step (fun _ => XS.ifYes X2.here hx rfl (pc0 := 37) (pc' := 62) rfl (hb hby at_37) rfl (Jvm.Free.XT.i0_eq_t hc37) (by decide) (by decide)) ?_
        show own_Goes p.tables e below (T2.setTop (mkF m 62 #[.val (.int p0), .val (.int p1), .val (.int v22_l2)] [])) _
        have hv : (own_f0_22 v22_l2) = (own_f0_62) := by exact ((if_neg hc28)).trans (if_pos hc37)
        rw [hv]
        exact J62 T2 _ (X2.more (by decide) (by decide)) N_22 (by rw [e2]; exact K_22)
      · refine own_step (fun _ => XS.ifNo X2.here hx rfl (hb hby at_37) rfl (Jvm.Free.XT.i0_eq_f hc37)) ?_
        show own_Goes p.tables e below (T2.setTop (mkF m 40 #[.val (.int p0), .val (.int p1), .val (.int v22_l2)] [])) _
        refine own_step (fun _ => XS.iloadN X2.here hx rfl (hb hby at_40) rfl) ?_
        show own_Goes p.tables e below (T2.setTop (mkF m 41 #[.val (.int p0), .val (.int p1), .val (.int v22_l2)] [(.int v22_l2)])) _
        refine own_step (fun _ => XS.iconst X2.here hx rfl (hb hby at_41)) ?_
        show own_Goes p.tables e below (T2.setTop (mkF m 42 #[.val (.int p0), .val (.int p1), .val (.int v22_l2)] [(.int (1 : Int32)), (.int v22_l2)])) _
        refine own_step (fun _ => XS.iconst X2.here hx rfl (hb hby at_42)) ?_
        show own_Goes p.tables e below (T2.setTop (mkF m 43 #[.val (.int p0), .val (.int p1), .val (.int v22_l2)] [(.int (0 : Int32)), (.int (1 : Int32)), (.int v22_l2)])) _
        obtain ⟨_, _, ⟨T3, L3, k3, n3⟩, -, X3, ⟨Lc3, hQ3, l3, y3, z3⟩, st3⟩ := Jvm.LawKit.callS X2 hx (y := (⟨"com/example/bede/bede/cli/SkippedReferencesIsWhiteSpacePinLaw", "check", "(CZZ)Z"⟩ : MethodName)) hown (mvT hZ (hw _ (List.mem_of_getElem? (i := 0) rfl))) (mvT hZ (hw _ (List.mem_of_getElem? (i := 1) rfl))) (mvT hZ (hw _ (List.mem_of_getElem? (i := 2) rfl))) (mvT hZ (hw _ (List.mem_of_getElem? (i := 3) rfl))) (by decide) (backOf (W := 0) (rm1 l Z a0 hw [] v22_l2 (1 : Int32) (0 : Int32) T_22.heap n0 (Nat.le_trans Z0 K_22.1)) hZ (hw _ (List.mem_of_getElem? (i := 3) rfl)) (hw _ (List.mem_of_getElem? (i := 2) rfl)) (by decide) (by decide)) (g := (mkF m 43 #[.val (.int p0), .val (.int p1), .val (.int v22_l2)] [(.int (0 : Int32)), (.int (1 : Int32)), (.int v22_l2)])) rfl (by rw [hml]; rfl) (argsL := [(.int v22_l2), (.int (1 : Int32)), (.int (0 : Int32))]) (rest := []) (lenOf pd_0_0 rfl) rfl (by show 2 * 0 + _ ≤ _; exact Nat.le_of_eq rfl) (hb hby at_43) (fun _ _ => ⟨rfl, e2, (by decide : 1 + 0 ≤ _), (by decide : 8 + 0 ≤ _)⟩)
        dsimp only [Pt.U, Pt.locs, Pt.cells, Pt.slots] at X3 l3 y3 z3 st3 hQ3
        subst l3 y3 z3
        obtain ⟨rfl, rfl, e3⟩ := hQ3
        have X3 : Stand p l e room_1 s m #[(.int p0), (.int p1)] below meth c T3 L_22 1 8 := own_flat X3
        refine own_step (st3) ?_
        show own_Goes p.tables e below (T3.setTop (mkF m 46 #[.val (.int p0), .val (.int p1), .val (.int v22_l2)] [(.int (own_f1 v22_l2 (1 : Int32) (0 : Int32)))])) _
        by_cases hc46 : (own_f1 v22_l2 (1 : Int32) (0 : Int32)) = 0
        · refine own_step (fun _ => XS.ifYes X3.here hx rfl (pc0 := 46) (pc' := 62) rfl (hb hby at_46) rfl (Jvm.Free.XT.i0_eq_t hc46) (by decide) (by decide)) ?_
          show own_Goes p.tables e below (T3.setTop (mkF m 62 #[.val (.int p0), .val (.int p1), .val (.int v22_l2)] [])) _
          have hv : (own_f0_22 v22_l2) = (own_f0_62) := by exact (((if_neg hc28)).trans (if_neg hc37)).trans (if_pos hc46)
          rw [hv]
          exact J62 T3 _ (X3.more (by decide) (by decide)) N_22 (by rw [e3]; exact K_22)
        · refine own_step (fun _ => XS.ifNo X3.here hx rfl (hb hby at_46) rfl (Jvm.Free.XT.i0_eq_f hc46)) ?_
          show own_Goes p.tables e below (T3.setTop (mkF m 49 #[.val (.int p0), .val (.int p1), .val (.int v22_l2)] [])) _
          refine own_step (fun _ => XS.iloadN X3.here hx rfl (hb hby at_49) rfl) ?_
          show own_Goes p.tables e below (T3.setTop (mkF m 50 #[.val (.int p0), .val (.int p1), .val (.int v22_l2)] [(.int v22_l2)])) _
          refine own_step (fun _ => XS.iconst X3.here hx rfl (hb hby at_50)) ?_
          show own_Goes p.tables e below (T3.setTop (mkF m 51 #[.val (.int p0), .val (.int p1), .val (.int v22_l2)] [(.int (1 : Int32)), (.int v22_l2)])) _
          refine own_step (fun _ => XS.iconst X3.here hx rfl (hb hby at_51)) ?_
          show own_Goes p.tables e below (T3.setTop (mkF m 52 #[.val (.int p0), .val (.int p1), .val (.int v22_l2)] [(.int (1 : Int32)), (.int (1 : Int32)), (.int v22_l2)])) _
          obtain ⟨_, _, ⟨T4, L4, k4, n4⟩, -, X4, ⟨Lc4, hQ4, l4, y4, z4⟩, st4⟩ := Jvm.LawKit.callS X3 hx (y := (⟨"com/example/bede/bede/cli/SkippedReferencesIsWhiteSpacePinLaw", "check", "(CZZ)Z"⟩ : MethodName)) hown (mvT hZ (hw _ (List.mem_of_getElem? (i := 0) rfl))) (mvT hZ (hw _ (List.mem_of_getElem? (i := 1) rfl))) (mvT hZ (hw _ (List.mem_of_getElem? (i := 2) rfl))) (mvT hZ (hw _ (List.mem_of_getElem? (i := 3) rfl))) (by decide) (backOf (W := 0) (rm1 l Z a0 hw [] v22_l2 (1 : Int32) (1 : Int32) T_22.heap n0 (Nat.le_trans Z0 K_22.1)) hZ (hw _ (List.mem_of_getElem? (i := 3) rfl)) (hw _ (List.mem_of_getElem? (i := 2) rfl)) (by decide) (by decide)) (g := (mkF m 52 #[.val (.int p0), .val (.int p1), .val (.int v22_l2)] [(.int (1 : Int32)), (.int (1 : Int32)), (.int v22_l2)])) rfl (by rw [hml]; rfl) (argsL := [(.int v22_l2), (.int (1 : Int32)), (.int (1 : Int32))]) (rest := []) (lenOf pd_0_0 rfl) rfl (by show 2 * 0 + _ ≤ _; exact Nat.le_of_eq rfl) (hb hby at_52) (fun _ _ => ⟨rfl, e3, (by decide : 1 + 0 ≤ _), (by decide : 8 + 0 ≤ _)⟩)
          dsimp only [Pt.U, Pt.locs, Pt.cells, Pt.slots] at X4 l4 y4 z4 st4 hQ4
          subst l4 y4 z4
          obtain ⟨rfl, rfl, e4⟩ := hQ4
          have X4 : Stand p l e room_1 s m #[(.int p0), (.int p1)] below meth c T4 L_22 1 8 := own_flat X4
          refine own_step (st4) ?_
          show own_Goes p.tables e below (T4.setTop (mkF m 55 #[.val (.int p0), .val (.int p1), .val (.int v22_l2)] [(.int (own_f1 v22_l2 (1 : Int32) (1 : Int32)))])) _
          by_cases hc55 : (own_f1 v22_l2 (1 : Int32) (1 : Int32)) = 0
          · refine own_step (fun _ => XS.ifYes X4.here hx rfl (pc0 := 55) (pc' := 62) rfl (hb hby at_55) rfl (Jvm.Free.XT.i0_eq_t hc55) (by decide) (by decide)) ?_
            show own_Goes p.tables e below (T4.setTop (mkF m 62 #[.val (.int p0), .val (.int p1), .val (.int v22_l2)] [])) _
            have hv : (own_f0_22 v22_l2) = (own_f0_62) := by exact ((((if_neg hc28)).trans (if_neg hc37)).trans (if_neg hc46)).trans (if_pos hc55)
            rw [hv]
            exact J62 T4 _ (X4.more (by decide) (by decide)) N_22 (by rw [e4]; exact K_22)
          · refine own_step (fun _ => XS.ifNo X4.here hx rfl (hb hby at_55) rfl (Jvm.Free.XT.i0_eq_f hc55)) ?_
            show own_Goes p.tables e below (T4.setTop (mkF m 58 #[.val (.int p0), .val (.int p1), .val (.int v22_l2)] [])) _
            refine own_step (fun _ => XS.iconst X4.here hx rfl (hb hby at_58)) ?_
            show own_Goes p.tables e below (T4.setTop (mkF m 59 #[.val (.int p0), .val (.int p1), .val (.int v22_l2)] [(.int (1 : Int32))])) _
            refine own_step (fun _ => XS.goto X4.here hx rfl (pc0 := 59) (pc' := 63) rfl (hb hby at_59) (by decide) (by decide)) ?_
            show own_Goes p.tables e below (T4.setTop (mkF m 63 #[.val (.int p0), .val (.int p1), .val (.int v22_l2)] [(.int (1 : Int32))])) _
            have hv : (own_f0_22 v22_l2) = (1 : Int32) := by exact ((((if_neg hc28)).trans (if_neg hc37)).trans (if_neg hc46)).trans (if_neg hc55)
            rw [hv]
            exact own_retN X4 hx (t := .boolean) Bd.returns (by simp) (hb hby at_63) (BodyLoose.notSynchronized Bd) (w := (1 : Int32)) rfl ⟨rfl, N_22⟩ (by decide) (by decide)
  by_cases hc3 : (p0 &&& (1 : Int32)) = 0
  · refine own_step (fun _ => XS.ifNo X0.here hx rfl (hb hby at_3) rfl (Jvm.Free.XT.i0_ne_f hc3)) ?_
    show own_Goes p.tables e below (s₁.setTop (mkF m 6 #[.val (.int p0), .val (.int p1), .unset] [])) _
    refine own_step (fun _ => XS.iloadN X0.here hx rfl (hb hby at_6) rfl) ?_
    show own_Goes p.tables e below (s₁.setTop (mkF m 7 #[.val (.int p0), .val (.int p1), .unset] [(.int p1)])) _
    refine own_step (fun _ => XS.i2c X0.here hx rfl (hb hby at_7) rfl) ?_
    show own_Goes p.tables e below (s₁.setTop (mkF m 8 #[.val (.int p0), .val (.int p1), .unset] [(.int (p1.toUInt32.toUInt16.toUInt32.toInt32))])) _
    refine own_step (fun _ => XS.istoreN X0.here hx rfl (hb hby at_8) rfl (l' := #[.val (.int p0), .val (.int p1), .val (.int (p1.toUInt32.toUInt16.toUInt32.toInt32))]) rfl) ?_
    show own_Goes p.tables e below (s₁.setTop (mkF m 9 #[.val (.int p0), .val (.int p1), .val (.int (p1.toUInt32.toUInt16.toUInt32.toInt32))] [])) _
    refine own_step (fun _ => XS.goto X0.here hx rfl (pc0 := 9) (pc' := 22) rfl (hb hby at_9) (by decide) (by decide)) ?_
    show own_Goes p.tables e below (s₁.setTop (mkF m 22 #[.val (.int p0), .val (.int p1), .val (.int (p1.toUInt32.toUInt16.toUInt32.toInt32))] [])) _
    have hv : (own_f0 p0 p1) = (own_f0_22 (p1.toUInt32.toUInt16.toUInt32.toInt32)) := by exact (if_pos hc3)
    rw [hv]
    exact J22 s₁ _ (X0.more (by decide) (by decide)) N0 (by rw [e0]; exact (Keep.refl h0 [])) (p1.toUInt32.toUInt16.toUInt32.toInt32)
  · refine own_step (fun _ => XS.ifYes X0.here hx rfl (pc0 := 3) (pc' := 12) rfl (hb hby at_3) rfl (Jvm.Free.XT.i0_ne_t hc3) (by decide) (by decide)) ?_
    show own_Goes p.tables e below (s₁.setTop (mkF m 12 #[.val (.int p0), .val (.int p1), .unset] [])) _
    refine own_step (fun _ => XS.iloadN X0.here hx rfl (hb hby at_12) rfl) ?_
    show own_Goes p.tables e below (s₁.setTop (mkF m 13 #[.val (.int p0), .val (.int p1), .unset] [(.int p0)])) _
    refine own_step (fun _ => XS.iconst X0.here hx rfl (hb hby at_13)) ?_
    show own_Goes p.tables e below (s₁.setTop (mkF m 14 #[.val (.int p0), .val (.int p1), .unset] [(.int (1 : Int32)), (.int p0)])) _
    refine own_step (fun _ => XS.iushr X0.here hx rfl (hb hby at_14) rfl) ?_
    show own_Goes p.tables e below (s₁.setTop (mkF m 15 #[.val (.int p0), .val (.int p1), .unset] [(.int ((p0.toUInt32 >>> ((1 : Int32) &&& 31).toUInt32).toInt32))])) _
    refine own_step (fun _ => XS.bipush X0.here hx rfl (hb hby at_15)) ?_
    show own_Goes p.tables e below (s₁.setTop (mkF m 17 #[.val (.int p0), .val (.int p1), .unset] [(.int (7 : Int32)), (.int ((p0.toUInt32 >>> ((1 : Int32) &&& 31).toUInt32).toInt32))])) _
    refine own_step (fun _ => XS.iand X0.here hx rfl (hb hby at_17) rfl) ?_
    show own_Goes p.tables e below (s₁.setTop (mkF m 18 #[.val (.int p0), .val (.int p1), .unset] [(.int (((p0.toUInt32 >>> ((1 : Int32) &&& 31).toUInt32).toInt32) &&& (7 : Int32)))])) _
    obtain ⟨_, _, ⟨T5, L5, k5, n5⟩, -, X5, ⟨Lc5, hQ5, l5, y5, z5⟩, st5⟩ := Jvm.LawKit.callS X0 hx (y := (⟨"com/example/bede/bede/cli/SkippedReferencesIsWhiteSpacePinLaw", "pick", "(I)C"⟩ : MethodName)) hown (mvT hZ (hw _ (List.mem_of_getElem? (i := 9) rfl))) (mvT hZ (hw _ (List.mem_of_getElem? (i := 10) rfl))) (mvT hZ (hw _ (List.mem_of_getElem? (i := 2) rfl))) (mvT hZ (hw _ (List.mem_of_getElem? (i := 11) rfl))) (by decide) (backOf (W := 0) (rm3 l Z a0 hw [] (((p0.toUInt32 >>> ((1 : Int32) &&& 31).toUInt32).toInt32) &&& (7 : Int32)) h0 n0 Z0 (own_nn _)) hZ (hw _ (List.mem_of_getElem? (i := 11) rfl)) (hw _ (List.mem_of_getElem? (i := 2) rfl)) (by decide) (by decide)) (g := (mkF m 18 #[.val (.int p0), .val (.int p1), .unset] [(.int (((p0.toUInt32 >>> ((1 : Int32) &&& 31).toUInt32).toInt32) &&& (7 : Int32)))])) rfl (by rw [hml]; rfl) (argsL := [(.int (((p0.toUInt32 >>> ((1 : Int32) &&& 31).toUInt32).toInt32) &&& (7 : Int32)))]) (rest := []) (lenOf pd_0_1 rfl) rfl (by show 2 * 0 + _ ≤ _; exact Nat.le_of_eq rfl) (hb hby at_18) (fun _ _ => ⟨rfl, e0, (by decide : 0 + 1 ≤ _), (by decide : 0 + 8 ≤ _)⟩)
    dsimp only [Pt.U, Pt.locs, Pt.cells, Pt.slots] at X5 l5 y5 z5 st5 hQ5
    subst y5 z5
    obtain ⟨rfl, Nq5, Kq5⟩ := hQ5
    have N5 : Fr n0 L5 := by rw [l5]; exact Fr.app N0 Nq5
    have K5 : Keep h0 T5.heap [] := (Keep.refl h0 []).trans Kq5 all0
    have Z5 : n0 ≤ T5.heap.size := Nat.le_trans Z0 Kq5.1
    refine own_step (st5) ?_
    show own_Goes p.tables e below (T5.setTop (mkF m 21 #[.val (.int p0), .val (.int p1), .unset] [(.int (own_f3 (((p0.toUInt32 >>> ((1 : Int32) &&& 31).toUInt32).toInt32) &&& (7 : Int32))))])) _
    obtain ⟨z21, hz21⟩ : ∃ z : Int32, z = (own_f3 (((p0.toUInt32 >>> ((1 : Int32) &&& 31).toUInt32).toInt32) &&& (7 : Int32))) := ⟨_, rfl⟩
    refine own_step (fun _ => XS.istoreN X5.here hx rfl (hb hby at_21) rfl (l' := #[.val (.int p0), .val (.int p1), .val (.int z21)]) (by subst hz21; rfl)) ?_
    show own_Goes p.tables e below (T5.setTop (mkF m 22 #[.val (.int p0), .val (.int p1), .val (.int z21)] [])) _
    have hv : (own_f0 p0 p1) = (own_f0_22 z21) := by subst hz21; exact (if_neg hc3)
    rw [hv]
    exact J22 T5 _ (X5.more (by decide) (by decide)) N5 K5 z21
theorem own_10 : ((1 : Int32) = 0) = False := by decide
theorem own_01 : ((0 : Int32) = 1) = False := by decide
theorem own_ltT {c x : Int32} {k : Int} (h : x.toInt = k) (q : c.toInt < k) : c < x := by rw [Int32.lt_iff_toInt_lt, h]; exact q
theorem own_ltF {c x : Int32} {k : Int} (h : x.toInt = k) (q : ¬ c.toInt < k) : ¬ (c < x) := by rw [Int32.lt_iff_toInt_lt, h]; exact q
theorem own_gtT {c x : Int32} {k : Int} (h : x.toInt = k) (q : k < c.toInt) : x < c := by rw [Int32.lt_iff_toInt_lt, h]; exact q
theorem own_gtF {c x : Int32} {k : Int} (h : x.toInt = k) (q : ¬ k < c.toInt) : ¬ (x < c) := by rw [Int32.lt_iff_toInt_lt, h]; exact q
theorem own_eqT {c x : Int32} {k : Int} (h : x.toInt = k) (q : c.toInt = k) : c = x := by rw [← Int32.toInt_inj, h]; exact q
theorem own_eqF {c x : Int32} {k : Int} (h : x.toInt = k) (q : ¬ c.toInt = k) : ¬ (c = x) := by rw [← Int32.toInt_inj, h]; exact q
theorem own_char (p : Int32) : ∃ k : Nat, k < 65536 ∧ p.toUInt32.toUInt16.toUInt32.toInt32 = Int32.ofNat k := by
  refine ⟨p.toUInt32.toUInt16.toNat, p.toUInt32.toUInt16.toNat_lt, ?_⟩
  generalize p.toUInt32.toUInt16 = u
  have hu := u.toNat_lt
  apply Int32.toBitVec_inj.mp
  apply BitVec.eq_of_toNat_eq
  simp
theorem own_small : ∀ k : Fin 64, own_f0_22 (Int32.ofNat k.val) = 1 := by decide +kernel
theorem own_big (c : Int32) (h : 64 ≤ c.toInt) : own_f0_22 c = 1 := by
  have t0 : ¬ (c < (64 : Int32)) := own_ltF (k := 64) rfl (by omega)
  have t1 : ¬ (c = (32 : Int32)) := own_eqF (k := 32) rfl (by omega)
  have t2 : ¬ (c = (9 : Int32)) := own_eqF (k := 9) rfl (by omega)
  have t3 : ¬ (c = (10 : Int32)) := own_eqF (k := 10) rfl (by omega)
  have t4 : ¬ (c = (13 : Int32)) := own_eqF (k := 13) rfl (by omega)
  by_cases t5 : c = (133 : Int32)
  · subst t5; decide +kernel
  · by_cases t6 : c = (8232 : Int32)
    · subst t6; decide +kernel
    · simp only [own_f0_22, own_f0_62, own_f1, own_f1_24, own_f1_25, own_f1_41, own_f1_46, own_f1_74, own_f1_77, own_f2, own_f2_46, own_f2_50, t0, t1, t2, t3, t4, t5, t6, own_10, own_01, ↓reduceIte]
theorem own_c22 (k : Nat) (hk : k < 65536) : own_f0_22 (Int32.ofNat k) = 1 := by
  by_cases h : k < 64
  · exact own_small ⟨k, h⟩
  · have ht : (Int32.ofNat k).toInt = k := Int32.toInt_ofNat_of_lt (by omega)
    exact own_big _ (by omega)
theorem own_law (p0 : Int32) (p1 : Int32) : own_f0 p0 p1 = 1 := by
  unfold own_f0
  have h1 : own_f0_22 p1.toUInt32.toUInt16.toUInt32.toInt32 = 1 := by
    obtain ⟨k, hk, e⟩ := own_char p1
    rw [e]; exact own_c22 k hk
  have h2 : ∀ q, own_f0_22 (own_f3 q) = 1 := fun q => by
    obtain ⟨k, hk, e⟩ := own_char (own_tb.getD q.toNatClampNeg 0)
    have e' : own_f3 q = Int32.ofNat k := e
    rw [e']; exact own_c22 k hk
  simp only [h1, h2, ite_self]
set_option maxRecDepth 65536 in
set_option maxHeartbeats 40000000 in
theorem comes_1 {Post : Tables → Env → Array Value → State → Outcome → State → Prop} (hpost : ∀ tb e args s v u, (limb_1_1.after args s (.returned v) u = true ∧ limb_1_2.after args s (.returned v) u = true ∧ True) → FrameEnd s (.returned v) u (Jvm.fieldLocs frame_1_writes args s ++ Jvm.arrayLocs frame_1_arrays args s ++ Jvm.staticLocs frame_1_statics s) 16 128 → Post tb e args s (.returned v) u) :
    ArmFor flags0 classFile x code maxLocals ret World_1 tables_1 room_1 Calls_1 rest_1 Pre_1 Post := by
  intro l hfl _ _ p e ha hc hk s m args below hf hA hF happ hP
  obtain ⟨hcalls, hrest, hpre⟩ := hP
  obtain ⟨-, -, -, hnamed, -, -, -, hat⟩ := (Spec.applies_iff hf).mp happ
  obtain ⟨hg, hn⟩ := and_e (Cond.before_iff.mp (show (Jvm.Cond.and given_1 narrow_1).before args s = true from hpre))
  obtain ⟨g1, g2⟩ := and_e hg
  obtain ⟨g3, g4⟩ := and_e g2
  obtain ⟨w0, w1, rfl⟩ : ∃ w0 w1 : Value, args = #[w0, w1] := by
    have hs : args.size = 2 := by simpa [Cond.value, given_1] using g1
    obtain ⟨L⟩ := args
    match L, hs with
    | [w0, w1], _ => exact ⟨w0, w1, rfl⟩
  have hw := fun d (hd : d ∈ tables_1) => atoms_spec (ws := Jvm.Cond.code x code maxLocals ret :: tables_1) hat d (List.mem_cons_of_mem _ hd)
  obtain ⟨i0, ei0⟩ := is_v g3
  obtain rfl : w0 = (.int i0) := Option.some.inj ei0
  obtain ⟨i1, ei1⟩ := is_v g4
  obtain rfl : w1 = (.int i1) := Option.some.inj ei1
  have hrm := rm0 l s _ hw tables_1 i0 i1 s.heap s.heap.size (Nat.le_refl _)
  rw [own_law i0 i1] at hrm
  obtain ⟨n, o, h1, h2, h3, _, L, rfl, ⟨rfl, N⟩, hq⟩ := hrm p e ha hc hk s m _ below hf ((Spec.applies_iff_loose hf).mp happ).1 ⟨rfl, State.Warmed39.refl s, rfl⟩ trivial
  refine ⟨n, _, h1, h2, h3, hpost _ _ _ _ _ _ ⟨Cond.after_iff.mpr rfl, Cond.after_iff.mpr (eq_i res_at (Term.int_eval (1)) rfl), trivial⟩ ⟨hq.1, hq.2.1, (hq.2.2.sift fun y hy => Or.inr (N y hy)).mono (by decide) (by decide)⟩⟩
theorem main_1_1 : Claimed_1_1 := comes_1 fun _ _ _ _ _ _ h hF => ⟨h.1, hF⟩
theorem main_1_2 : Claimed_1_2 := comes_1 fun _ _ _ _ _ _ h hF => ⟨h.2.1, hF⟩
end Jvm.Pilot.@@N@@
namespace Jvm.Pilot.@@N@@
open Jvm Jvm.ClassFile Sem Op Lib Jvm.Free Jvm.Stand Jvm.Pilot.@@N@@.Jvm.D
/-! MADE BY PROGRAM (witnessworld.py) out of the Statement's table words and the real class files: 11 classes; the members and pool entries that the words name. The judged class is class 1, her method 1. -/
namespace start1
open Jvm.ClassFile
def u (s : String) : CpInfo := .utf8 (stringToUtf16 s)
/-- a pool by its gaps: so many unusable entries, then the entry; so many at the end -/
def gap : Nat → List CpInfo → List CpInfo
  | 0, r => r
  | n + 1, r => .unusable :: gap n r
def poolList (es : List (Nat × CpInfo)) (last : Nat) : List CpInfo := es.foldr (fun e r => gap e.1 (e.2 :: r)) (gap last [])
def pool (es : List (Nat × CpInfo)) (last : Nat) : Array CpInfo := ⟨poolList es last⟩
def fileOf (pool : Array CpInfo) (this : Nat) (attrs : Array Attribute := #[]) (ms : Array MethodInfo := #[]) (fl : Nat := 33) (sup : Nat := 0) (ifs : Array Nat := #[]) (fds : Array FieldInfo := #[]) : ClassFile where
  minorVersion := 0
  majorVersion := 65
  constantPool := pool
  accessFlags := fl
  thisClass := this
  superClass := sup
  interfaces := ifs
  fields := fds
  methods := ms
  attributes := attrs
def plain (name : String) (sup : Option ClassId) : Class where
  name := name
  kind := .ordinary
  loader := none
  accessFlags := 33
  super := sup
  interfaces := #[]
  cf := none
  fields := #[]
  methods := #[]
  instanceTypes := #[]
  staticTypes := #[]
  resolved := #[]
  callSites := []
  init := .initialized
  statics := none
  mirror := none

def pool0 : Array CpInfo := pool [(5, u "<init>"), (0, u "()V"), (1, .class_ 10), (1, u "java/lang/Object")] 113

def k0m0 : Method := { name := "<init>", desc := "()V", sig := { parameters := [], returnType := none }, accessFlags := 1, code := none }
/-- java/lang/Object -/
def k0 : Class := { plain "java/lang/Object" none with
  accessFlags := 33
  interfaces := #[]
  cf := some (fileOf pool0 8 #[] #[{ accessFlags := 1, nameIndex := 5, descriptorIndex := 6, attributes := #[] }] 33 0 #[] #[])
  fields := #[]
  methods := #[k0m0]
  instanceTypes := #[]
  staticTypes := #[]
  resolved := Array.replicate 124 none
  statics := none }

def pool1 : Array CpInfo := pool [(2, .class_ 4), (1, u "java/lang/Object"), (0, u "<init>"), (0, u "()V"), (0, .methodref 8 9), (0, .class_ 10), (0, .nameAndType 11 12), (0, u "com/example/bede/bede/cli/SkippedReferencesIsWhiteSpacePinLaw"), (0, u "pick"), (0, u "(I)C"), (0, .methodref 8 14), (0, .nameAndType 15 16), (0, u "check"), (0, u "(CZZ)Z"), (0, .long 4294977024), (1, .methodref 20 21), (0, .class_ 22), (0, .nameAndType 23 16), (0, u "com/example/bede/bede/cli/SkippedReferences"), (0, u "isWhiteSpace"), (2, u "law"), (0, u "(II)Z")] 3

def k1m0 : Method := { name := "<init>", desc := "()V", sig := { parameters := [], returnType := none }, accessFlags := 1, code := none }
def k1c1 : Code := { maxStack := 3, maxLocals := 3, code := code, exceptionTable := #[], attributes := #[] }
def k1m1 : Method := { name := "law", desc := "(II)Z", sig := { parameters := [.int, .int], returnType := some .boolean }, accessFlags := 9, code := some k1c1 }
def k1c2 : Code := { maxStack := 4, maxLocals := 2, code := method_3_code, exceptionTable := #[], attributes := #[] }
def k1m2 : Method := { name := "pick", desc := "(I)C", sig := { parameters := [.int], returnType := some .char }, accessFlags := 10, code := some k1c2 }
def k1c3 : Code := { maxStack := 4, maxLocals := 7, code := method_4_code, exceptionTable := #[], attributes := #[] }
def k1m3 : Method := { name := "check", desc := "(CZZ)Z", sig := { parameters := [.char, .boolean, .boolean], returnType := some .boolean }, accessFlags := 10, code := some k1c3 }
/-- com/example/bede/bede/cli/SkippedReferencesIsWhiteSpacePinLaw -/
def k1 : Class := { plain "com/example/bede/bede/cli/SkippedReferencesIsWhiteSpacePinLaw" (some 0) with
  accessFlags := 49
  interfaces := #[]
  cf := some (fileOf pool1 8 #[] #[{ accessFlags := 1, nameIndex := 5, descriptorIndex := 6, attributes := #[] }, { accessFlags := 9, nameIndex := 26, descriptorIndex := 27, attributes := #[] }, { accessFlags := 10, nameIndex := 11, descriptorIndex := 12, attributes := #[] }, { accessFlags := 10, nameIndex := 15, descriptorIndex := 16, attributes := #[] }] 49 2 #[] #[])
  fields := #[]
  methods := #[k1m0, k1m1, k1m2, k1m3]
  instanceTypes := #[]
  staticTypes := #[]
  resolved := Array.replicate 31 none
  statics := none }

def pool2 : Array CpInfo := pool [(2, .class_ 4), (1, u "java/lang/Object"), (6, .class_ 13), (1, u "com/example/bede/bede/cli/SkippedReferences"), (0, u "documentTags"), (0, u "Lcom/example/bede/bede/cli/StartTags;"), (5, u "entities"), (0, u "Ljava/util/Map;"), (2, u "entityTags"), (5, u "expanding"), (0, u "Ljava/util/List;"), (5, u "readDefaults"), (2, u "locator"), (0, u "Lorg/xml/sax/Locator;"), (2, u "xml11"), (0, u "Z"), (7, u "defaults"), (0, u "Lcom/example/bede/bede/cli/AttributeDefaults;"), (191, u "PREDEFINED"), (30, .class_ 279), (0, u "com/example/bede/bede/cli/SkippedReferences$Reading"), (52, u "isWhiteSpace"), (0, u "(CZZ)Z")] 126

def k2c0 : Code := { maxStack := 2, maxLocals := 3, code := prog_157_method_21_code, exceptionTable := #[], attributes := #[] }
def k2m0 : Method := { name := "isWhiteSpace", desc := "(CZZ)Z", sig := { parameters := [.char, .boolean, .boolean], returnType := some .boolean }, accessFlags := 8, code := some k2c0 }
/-- com/example/bede/bede/cli/SkippedReferences -/
def k2 : Class := { plain "com/example/bede/bede/cli/SkippedReferences" (some 0) with
  accessFlags := 48
  interfaces := #[]
  cf := some (fileOf pool2 11 #[.nestMembers #[278]] #[{ accessFlags := 8, nameIndex := 332, descriptorIndex := 333, attributes := #[] }] 48 2 #[] #[{ accessFlags := 26, nameIndex := 247, descriptorIndex := 22, attributes := #[] }, { accessFlags := 18, nameIndex := 41, descriptorIndex := 42, attributes := #[] }, { accessFlags := 18, nameIndex := 45, descriptorIndex := 46, attributes := #[] }, { accessFlags := 18, nameIndex := 14, descriptorIndex := 15, attributes := #[] }, { accessFlags := 18, nameIndex := 21, descriptorIndex := 22, attributes := #[] }, { accessFlags := 18, nameIndex := 25, descriptorIndex := 22, attributes := #[] }, { accessFlags := 18, nameIndex := 31, descriptorIndex := 32, attributes := #[] }, { accessFlags := 18, nameIndex := 54, descriptorIndex := 55, attributes := #[] }, { accessFlags := 18, nameIndex := 38, descriptorIndex := 22, attributes := #[] }])
  fields := #[{ name := "PREDEFINED", type := (.object "java/util/Map"), accessFlags := 26, slot := 0, constantValue := 0 }, { name := "locator", type := (.object "org/xml/sax/Locator"), accessFlags := 18, slot := 0, constantValue := 0 }, { name := "xml11", type := .boolean, accessFlags := 18, slot := 1, constantValue := 0 }, { name := "documentTags", type := (.object "com/example/bede/bede/cli/StartTags"), accessFlags := 18, slot := 2, constantValue := 0 }, { name := "entities", type := (.object "java/util/Map"), accessFlags := 18, slot := 3, constantValue := 0 }, { name := "entityTags", type := (.object "java/util/Map"), accessFlags := 18, slot := 4, constantValue := 0 }, { name := "expanding", type := (.object "java/util/List"), accessFlags := 18, slot := 5, constantValue := 0 }, { name := "defaults", type := (.object "com/example/bede/bede/cli/AttributeDefaults"), accessFlags := 18, slot := 6, constantValue := 0 }, { name := "readDefaults", type := (.object "java/util/Map"), accessFlags := 18, slot := 7, constantValue := 0 }]
  methods := #[k2m0]
  instanceTypes := #[(.object "org/xml/sax/Locator"), .boolean, (.object "com/example/bede/bede/cli/StartTags"), (.object "java/util/Map"), (.object "java/util/Map"), (.object "java/util/List"), (.object "com/example/bede/bede/cli/AttributeDefaults"), (.object "java/util/Map")]
  staticTypes := #[(.object "java/util/Map")]
  resolved := Array.replicate 460 none
  statics := none }

def pool3 : Array CpInfo := pool [(1, u "java/lang/Cloneable"), (0, .class_ 1), (0, u "java/lang/Object"), (0, .class_ 3)] 3

/-- java/lang/Cloneable -/
def k3 : Class := { plain "java/lang/Cloneable" (some 0) with
  accessFlags := 1537
  interfaces := #[]
  cf := some (fileOf pool3 2 #[] #[] 1537 4 #[] #[])
  fields := #[]
  methods := #[]
  instanceTypes := #[]
  staticTypes := #[]
  resolved := Array.replicate 8 none
  statics := none }

def pool4 : Array CpInfo := pool [(1, u "java/io/Serializable"), (0, .class_ 1), (0, u "java/lang/Object"), (0, .class_ 3)] 3

/-- java/io/Serializable -/
def k4 : Class := { plain "java/io/Serializable" (some 0) with
  accessFlags := 1537
  interfaces := #[]
  cf := some (fileOf pool4 2 #[] #[] 1537 4 #[] #[])
  fields := #[]
  methods := #[]
  instanceTypes := #[]
  staticTypes := #[]
  resolved := Array.replicate 8 none
  statics := none }

/-- the primitive byte -/
def k5 : Class := { plain "byte" none with kind := .primitive 'B', accessFlags := 0x411 }
/-- [B -/
def k6 : Class := { plain "[B" (some 0) with kind := .array 5 .byte, interfaces := #[3, 4], accessFlags := 1041 }

/-- the primitive char -/
def k7 : Class := { plain "char" none with kind := .primitive 'C', accessFlags := 0x411 }
/-- [C -/
def k8 : Class := { plain "[C" (some 0) with kind := .array 7 .char, interfaces := #[3, 4], accessFlags := 1041 }

/-- the primitive int -/
def k9 : Class := { plain "int" none with kind := .primitive 'I', accessFlags := 0x411 }
/-- [I -/
def k10 : Class := { plain "[I" (some 0) with kind := .array 9 .int, interfaces := #[3, 4], accessFlags := 1041 }

def heap : Heap := #[]
def classes : Array Class := #[k0, k1, k2, k3, k4, k5, k6, k7, k8, k9, k10]
def interned : List (Array UInt16 × Addr) := []
def slotsUsed : Nat := 0
def theMethod : MethodId := ⟨1, 1⟩
def args0 : Array Value := #[.int 1, .int 2]
def aboutOver (below : List Frame) : State where
  vm := { classes := classes, interned := interned.toArray }
  heap := heap
  slotsUsed := slotsUsed
  threads := #[{ frames := .invoking theMethod args0 :: below }]
def below0 : List Frame := [.native { method := ⟨0, 0⟩, args := #[] }]
def about1 : State := aboutOver below0
def p0 : Program := .bare "" "" ""
def e0 : Env := launch0.env 0 0 0
theorem w_frames : about1.frames = Frame.invoking theMethod args0 :: below0 := rfl
set_option maxRecDepth 65536 in
theorem w_args : argsFit about1.vm theMethod args0 = true := by decide +kernel
set_option maxRecDepth 65536 in
theorem w_heap : heapFits about1 = true := by decide +kernel
set_option maxRecDepth 65536 in
theorem w_runnable : about1.curStatus? = some .runnable := by decide +kernel
set_option maxRecDepth 65536 in
theorem w_alone : about1.alone = true := by decide +kernel
set_option maxRecDepth 65536 in
theorem w_named : about1.methodNamed? x = some theMethod := by decide +kernel
set_option maxRecDepth 65536 in
theorem w_hears : about1.hears theMethod below0 = true := by decide +kernel
set_option maxRecDepth 65536 in
theorem w_ripe : about1.ripe theMethod args0 below0 = true := by decide +kernel
theorem w_running : about1.status = .running := rfl
set_option maxRecDepth 65536 in
theorem w_room : about1.hasRoom e0.platform room_1 = true :=
  launch0.hasRoom_least _ room_1 (by decide +kernel) (by decide +kernel) (by decide +kernel) (by decide +kernel) (by decide +kernel) (by decide +kernel)
theorem allAtoms_all (ts : List Jvm.Cond) (a : Array Jvm.Value) (st : Jvm.State) : (allAtoms ts).before a st = ts.all (fun c => c.before a st) := by
  induction ts with
  | nil => rfl
  | cons c t ih =>
    show (Jvm.Cond.and c (allAtoms t)).before a st = _
    rw [Jvm.Cond.before_and, ih, List.all_cons]
def words1 : List Jvm.Cond := Jvm.Cond.code x code maxLocals ret :: tables_1
/-- a 'code' word, met by the world's own term for the bytes: nothing is compared byte by byte -/
theorem code_word {y : MethodName} {bytes : ByteArray} {mx : Nat} {rt : Option FieldType} {a : Array Value} {s : State} {m : MethodId} {meth : Method} {c : Code} (h1 : s.methodNamed? y = some m) (h2 : s.vm.method? m = some meth) (h3 : meth.code = some c) (h4 : c.code = bytes)
    (h5 : (c.maxLocals == mx && c.exceptionTable.isEmpty && decide (c.maxStack ≤ mostOperands) && decide (meth.sig.returnType = rt) && !meth.locks && decide (parseMethodDescriptor y.desc = some meth.sig)) = true) : (Jvm.Cond.code y bytes mx rt).before a s = true := by
  simp only [Bool.and_eq_true, beq_iff_eq, Bool.not_eq_true', decide_eq_true_eq] at h5
  obtain ⟨⟨⟨⟨⟨g1, g2⟩, g3⟩, g4⟩, g5⟩, g6⟩ := h5
  simp [Cond.before, Cond.holds, Cond.value, h1, h2, h3, h4, g1, g2, g3, g4, g5, g6]
def isCode : Jvm.Cond → Bool
  | .code _ _ _ _ => true
  | _ => false
theorem all_split {L : List Jvm.Cond} {P : Jvm.Cond → Bool} (h1 : L.all (fun c => isCode c || P c) = true) (h2 : ∀ c ∈ L.filter isCode, P c = true) : L.all P = true := by
  refine List.all_eq_true.mpr fun c hc => ?_
  have h := List.all_eq_true.mp h1 c hc
  rcases Bool.eq_false_or_eq_true (isCode c) with hi | hi
  · exact h2 c (List.mem_filter.mpr ⟨hc, hi⟩)
  · simpa [hi] using h
set_option maxRecDepth 65536 in
theorem w_c0 : (Jvm.Cond.code x code maxLocals ret).before args0 about1 = true := code_word (m := ⟨1, 1⟩) (meth := k1m1) (c := k1c1) (by decide +kernel) rfl rfl rfl (by decide +kernel)
set_option maxRecDepth 65536 in
theorem w_c1 : (Jvm.Cond.code ({ cls := "com/example/bede/bede/cli/SkippedReferencesIsWhiteSpacePinLaw", name := "check", desc := "(CZZ)Z" } : Jvm.MethodName) method_4_code (7 : Nat) (Option.some Jvm.ClassFile.FieldType.boolean)).before args0 about1 = true := code_word (m := ⟨1, 3⟩) (meth := k1m3) (c := k1c3) (by decide +kernel) rfl rfl rfl (by decide +kernel)
set_option maxRecDepth 65536 in
theorem w_c2 : (Jvm.Cond.code ({ cls := "com/example/bede/bede/cli/SkippedReferences", name := "isWhiteSpace", desc := "(CZZ)Z" } : Jvm.MethodName) prog_157_method_21_code (3 : Nat) (Option.some Jvm.ClassFile.FieldType.boolean)).before args0 about1 = true := code_word (m := ⟨2, 0⟩) (meth := k2m0) (c := k2c0) (by decide +kernel) rfl rfl rfl (by decide +kernel)
set_option maxRecDepth 65536 in
theorem w_c3 : (Jvm.Cond.code ({ cls := "com/example/bede/bede/cli/SkippedReferencesIsWhiteSpacePinLaw", name := "pick", desc := "(I)C" } : Jvm.MethodName) method_3_code (2 : Nat) (Option.some Jvm.ClassFile.FieldType.char)).before args0 about1 = true := code_word (m := ⟨1, 2⟩) (meth := k1m2) (c := k1c2) (by decide +kernel) rfl rfl rfl (by decide +kernel)
def codes1 : List Jvm.Cond := [Jvm.Cond.code x code maxLocals ret, Jvm.Cond.code ({ cls := "com/example/bede/bede/cli/SkippedReferencesIsWhiteSpacePinLaw", name := "check", desc := "(CZZ)Z" } : Jvm.MethodName) method_4_code (7 : Nat) (Option.some Jvm.ClassFile.FieldType.boolean), Jvm.Cond.code ({ cls := "com/example/bede/bede/cli/SkippedReferences", name := "isWhiteSpace", desc := "(CZZ)Z" } : Jvm.MethodName) prog_157_method_21_code (3 : Nat) (Option.some Jvm.ClassFile.FieldType.boolean), Jvm.Cond.code ({ cls := "com/example/bede/bede/cli/SkippedReferencesIsWhiteSpacePinLaw", name := "pick", desc := "(I)C" } : Jvm.MethodName) method_3_code (2 : Nat) (Option.some Jvm.ClassFile.FieldType.char)]
set_option maxRecDepth 65536 in
theorem codes_eq : words1.filter isCode = codes1 := rfl
theorem w_codes : ∀ c ∈ words1.filter isCode, c.before args0 about1 = true := by
  rw [codes_eq]
  intro c hc
  simp only [codes1, List.mem_cons, List.not_mem_nil, or_false] at hc
  rcases hc with rfl | rfl | rfl | rfl
  · exact w_c0
  · exact w_c1
  · exact w_c2
  · exact w_c3
set_option maxRecDepth 65536 in
theorem w_t1 : words1.all (fun c => isCode c || c.before args0 about1) = true := by decide +kernel
theorem w_tables : (allAtoms (Jvm.Cond.code x code maxLocals ret :: tables_1)).before args0 about1 = true := by
  rw [allAtoms_all]
  show words1.all (fun c => c.before args0 about1) = true
  refine all_split ?_ w_codes
  rw [w_t1]
set_option maxRecDepth 65536 in
theorem w_case : (Jvm.Cond.and given_1 narrow_1).before args0 about1 = true := by decide +kernel
theorem w_applies : (headSpec (Jvm.Cond.code x code maxLocals ret :: tables_1) room_1).applies x e0.platform about1 = true :=
  (Spec.applies_iff w_frames).mpr ⟨w_running, w_runnable, w_alone, w_named, w_hears, w_ripe, w_room, w_tables⟩
theorem atStart : AtStart classFile x code maxLocals ret World_1 tables_1 room_1 Calls_1 rest_1 Pre_1 launch0 p0 e0 about1 theMethod args0 below0 :=
  ⟨lists_1, trivial, launch0.admits_env _ _ _, launch0.least_env, fairChoices_fair.cas, fairChoices_fair.clock, w_frames, w_args, w_heap, w_applies, trivial, trivial, w_case⟩
end start1
theorem witness_1 : WitnessClaimed_1 := ⟨start1.p0, start1.e0, start1.about1, start1.theMethod, start1.args0, start1.below0, start1.atStart⟩
end Jvm.Pilot.@@N@@
