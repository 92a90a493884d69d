import JvmDerived
import JvmDerived.Pilot.@@N@@Statement
import JvmDerived.Pilot.@@N@@Code
set_option linter.unusedVariables false
set_option linter.unusedSimpArgs false
@@BLOCK:NumsL.lean.txt@@
namespace Jvm.RoadKit
open Sem ClassFile Op Lib Jvm.Stand Jvm.Free Jvm.LawKit
section New
variable {p : Program} {l : Launch} {e : Env} {R : Room} {s : State} {m : MethodId} {args : Array Value} {below : List Frame} {meth : Method} {c : Code} {T : State} {locs : List Loc} {cells slots : Nat}
theorem retI (X : Stand p l e R s m args below meth c T locs cells slots) (hx : p.tables.exec = Jvm.exec) {pc : Nat} {Ls : Array Slot} {z : Int32} {rest : List Value} (hret : meth.sig.returnType = some .int) (hd : decode c.code pc = .ok (.ireturn, 1)) {fs : List Frame}
    (hl : ∀ (f : JFrame) (acts : List Action), f.method = m → f.locked = none → f.entered = [] → (doReturn e (T.setTop f) acts (some (.int z))).1 = T.setFrames fs) : Steps p.tables e below (T.setTop (mkF m pc Ls (.int z :: rest))) (T.setFrames fs) := by
  have hm' : T.vm.method? m = some meth := X.method'
  have hn : narrow .int (.int z) = .int z := rfl
  show Steps p.tables e below (T.setTop { method := m, pc := pc, locals := Ls, stack := _ :: rest, locked := none }) _
  jvm_step X.here [X.here.top, hx, hd, hm', hret, hn]
  first | (intro acts; rw [hl _ acts rfl rfl rfl]) | rw [hl _ _ rfl rfl rfl]
  exact Steps.refl _
end New
end Jvm.RoadKit
namespace Jvm.Pilot.@@N@@
open Jvm Jvm.ClassFile Sem Op Lib Jvm.Free Jvm.Stand Jvm.LawKit Jvm.RoadKit Bundle Jvm.Pilot.@@N@@.Jvm.D
section Own
variable {p : Program} {l : Launch} {e : Env} {R : Room} {s : State} {m : MethodId} {args : Array Value} {below : List Frame} {meth : Method} {c : Code} {T : State} {locs : List Loc} {cells slots : Nat}
/-- the run goes on from S to its end, and P holds there -/
def own_Goes (tb : Tables) (e : Env) (below : List Frame) (S : State) (P : State → Outcome → Prop) : Prop :=
  ∃ s₂ o, Steps tb e below S s₂ ∧ s₂.status = .running ∧ Ended s₂ below o ∧ P s₂ o
theorem own_step {tb : Tables} {S S' : State} {P : State → Outcome → Prop} (h : ∀ t, Steps tb e below S' t → Steps tb e below S t) (k : own_Goes tb e below S' P) : own_Goes tb e below S P := by
  obtain ⟨s₂, o, h1, h2⟩ := k
  exact ⟨s₂, o, h _ h1, h2⟩
theorem own_enter {tb : Tables} {g g' : JFrame} {P : State → Outcome → Prop} (q : g = g') (k : own_Goes tb e below (T.setTop g') P) : own_Goes tb e below (T.setTop g) P := q ▸ k
def own_P (s : State) (Q : Option Value → Heap → List Loc → Prop) (C K : Nat) : State → Outcome → Prop := fun U o => ∃ v L, o = .returned v ∧ Q v U.heap L ∧ FrameEnd s o U L C K
/-- a body that writes nothing -/
def own_Qp (w : Option Value) (h0 : Heap) (v : Option Value) (h : Heap) (L : List Loc) : Prop := v = w ∧ L = [] ∧ h = h0
/-- a body that makes cells and writes none that stood before -/
def own_Qa (w : Option Value) (h0 : Heap) (n0 : Nat) (v : Option Value) (h : Heap) (L : List Loc) : Prop := v = w ∧ Fr n0 L ∧ Keep h0 h []
/-- the law -/
def own_Ql (w : Option Value) (n0 : Nat) (v : Option Value) (h : Heap) (L : List Loc) : Prop := v = w ∧ Fr n0 L
variable {Q : Option Value → Heap → List Loc → Prop} {C K : Nat}
theorem own_retI (X : Stand p l e R s m args below meth c T locs cells slots) (hx : p.tables.exec = Jvm.exec) {pc : Nat} {Ls : Array Slot} {z : Int32} {rest : List Value} (hret : meth.sig.returnType = some .int) (hd : decode c.code pc = .ok (.ireturn, 1)) (hk : meth.locks = false)
    (hQ : Q (some (.int z)) T.heap locs) (hc : cells ≤ C) (hs : slots ≤ K) : own_Goes p.tables e below (T.setTop (mkF m pc Ls (.int z :: rest))) (own_P s Q C K) := by
  obtain ⟨fs, hr, hrun, hended, hW, hsame⟩ := X.leave (v := some (.int z)) (fun h => by rw [hret] at h; cases h) hk
  exact ⟨_, _, retI X hx hret hd hr, hrun, hended, _, _, rfl, hQ, ⟨_, rfl⟩, hW, hsame.mono hc hs⟩
theorem own_retN (X : Stand p l e R s m args below meth c T locs cells slots) (hx : p.tables.exec = Jvm.exec) {pc : Nat} {Ls : Array Slot} {z : Int32} {t : FieldType} {rest : List Value} (hret : meth.sig.returnType = some t) (ht : t = .boolean ∨ t = .byte ∨ t = .char ∨ t = .short) (hd : decode c.code pc = .ok (.ireturn, 1)) (hk : meth.locks = false)
    {w : Int32} (hw : nar t z = w) (hQ : Q (some (.int w)) T.heap locs) (hc : cells ≤ C) (hs : slots ≤ K) : own_Goes p.tables e below (T.setTop (mkF m pc Ls (.int z :: rest))) (own_P s Q C K) := by
  subst hw
  obtain ⟨fs, hr, hrun, hended, hW, hsame⟩ := X.leave (v := some (.int (nar t z))) (fun h => by rw [hret] at h; cases h) hk
  exact ⟨_, _, retN X hx hret ht hd hr, hrun, hended, _, _, rfl, hQ, ⟨_, rfl⟩, hW, hsame.mono hc hs⟩
theorem own_retJ (X : Stand p l e R s m args below meth c T locs cells slots) (hx : p.tables.exec = Jvm.exec) {pc : Nat} {Ls : Array Slot} {z : Int64} (hret : meth.sig.returnType = some .long) (hd : decode c.code pc = .ok (.lreturn, 1)) (hk : meth.locks = false)
    (hQ : Q (some (.long z)) T.heap locs) (hc : cells ≤ C) (hs : slots ≤ K) : own_Goes p.tables e below (T.setTop (mkF m pc Ls [.long z])) (own_P s Q C K) := by
  obtain ⟨fs, hr, hrun, hended, hW, hsame⟩ := X.leave (v := some (.long z)) (fun h => by rw [hret] at h; cases h) hk
  exact ⟨_, _, X.lreturnOut hx hret hd hr, hrun, hended, _, _, rfl, hQ, ⟨_, rfl⟩, hW, hsame.mono hc hs⟩
theorem own_retV (X : Stand p l e R s m args below meth c T locs cells slots) (hx : p.tables.exec = Jvm.exec) {pc : Nat} {Ls : Array Slot} (hret : meth.sig.returnType = none) (hd : decode c.code pc = .ok (.return_, 1)) (hk : meth.locks = false)
    (hQ : Q none T.heap locs) (hc : cells ≤ C) (hs : slots ≤ K) : own_Goes p.tables e below (T.setTop (mkF m pc Ls [])) (own_P s Q C K) := by
  obtain ⟨fs, hr, hrun, hended, hW, hsame⟩ := X.leave (v := none) (fun _ => rfl) hk
  exact ⟨_, _, X.returnOut hx hret hd hr, hrun, hended, _, _, rfl, hQ, ⟨_, rfl⟩, hW, hsame.mono hc hs⟩
theorem own_flat (X : Stand p l e R s m args below meth c T (locs ++ []) (cells + 0) (slots + 0)) : Stand p l e R s m args below meth c T locs cells slots := List.append_nil locs ▸ X
end Own

section OwnArr
variable {p : Program} {l : Launch} {e : Env} {R : Room} {s : State} {m : MethodId} {args : Array Value} {below : List Frame} {meth : Method} {c : Code} {T : State} {locs : List Loc} {cells slots : Nat} {Z : State} {a0 : Array Value} {h h' : Heap} {a : Addr} {k : ClassId} {ty : FieldType} {n : Int32} {xs : List Int32}
/-- an array of ints (bytes, chars ..) that the road has made: xs are its elements -/
def own_A (Z : State) (h : Heap) (a : Addr) (k : ClassId) (ty : FieldType) (n : Int32) (xs : List Int32) : Prop := Arv Z h a k ty n (xs.map Value.int) (.int 0)
theorem own_A.keep {ws : List Addr} (V : own_A Z h a k ty n xs) (K : Keep h h' ws) (q : a ∉ ws) : own_A Z h' a k ty n xs := Arv.keep V K q
theorem own_newA (X : Stand p l e R s m args below meth c T locs cells slots) (hx : p.tables.exec = Jvm.exec) (hZ : Z.Warmed39 s.vm) {aty : ArrayType} (w : (Jvm.Cond.arrayClass (newarray.typeOf aty)).before a0 Z = true) (eT : T.heap = h) {g : JFrame} (hg : g.method = m) (hd : decode c.code g.pc = .ok (.newarray aty, 2)) {rest : List Value} (hs : g.stack = .int n :: rest)
    (N : Nat) (hn : ¬ n < 0) (hN : n.toNatClampNeg = N) (hb : N * 8 ≤ 536870912) (hc : cells + 1 ≤ R.cells) (hl : slots + N ≤ R.slots) (h0 : defaultValue (newarray.typeOf aty) = .int 0) :
    ∃ T' h' a k, Stand p l e R s m args below meth c T' locs (cells + 1) (slots + N) ∧ T'.heap = h' ∧ Ext h h' ∧ a = h.size ∧ own_A Z h' a k (newarray.typeOf aty) n (List.replicate N 0) ∧
      ∀ target, Steps p.tables e below (T'.setTop { g with pc := g.pc + 2, stack := .ref a :: rest }) target → Steps p.tables e below (T.setTop g) target := by
  obtain ⟨T', h', cA, X', e', E, A, st⟩ := newP X hx hZ w eT hg hd hs hn (cap := N) (Nat.le_of_eq hN) hb hc hl
  refine ⟨T', h', h.size, cA, X', e', E, rfl, ?_, st⟩
  have V := Arv.new A hn
  rw [h0] at V
  have V' := V.pad (pad_rep [] (.int 0) N)
  unfold own_A
  rw [List.map_replicate]
  exact V'
theorem own_setA {j x : Int32} {cl : Cell} (A : Arr Z h a cl ty) (q : cl.cls = k) (S : cl.slots.size = n.toNatClampNeg) (N : ¬ n < 0) (H : Has cl (xs.map Value.int) (.int 0)) (G : ∀ i, i < cl.slots.size → fits ty ((xs.map Value.int).getD i (.int 0)) = true) (hf : fits ty (.int x) = true)
    (W : Wr h h' a j.toNatClampNeg (.int x)) (i : Nat) (hj : j.toNatClampNeg = i) (hi : i < xs.length) : own_A Z h' a k ty n (xs.set i x) := by
  have V := Arv.set A q S N H G hf W i hj (by simpa using hi)
  unfold own_A
  rw [List.map_set]
  exact V
theorem own_stI (X : Stand p l e R s m args below meth c T locs cells slots) (hx : p.tables.exec = Jvm.exec) (hZ : Z.Warmed39 s.vm) (eT : T.heap = h) (V : own_A Z h a k .int n xs) {j x : Int32} (i : Nat) (hj : ¬ j < 0 ∧ j < n) (hi : j.toNatClampNeg = i) (hl : i < xs.length)
    {g : JFrame} (hg : g.method = m) {rest : List Value} (hs : g.stack = .int x :: .int j :: .ref a :: rest) (hd : decode c.code g.pc = .ok (.iastore, 1)) :
    ∃ T' h' L', Stand p l e R s m args below meth c T' L' cells slots ∧ T'.heap = h' ∧ (∀ n0, Fr n0 locs → n0 ≤ a → Fr n0 L') ∧ own_A Z h' a k .int n (xs.set i x) ∧ Wr h h' a j.toNatClampNeg (.int x) ∧
      ∀ target, Steps p.tables e below (T'.setTop { g with pc := g.pc + 1, stack := rest }) target → Steps p.tables e below (T.setTop g) target := by
  obtain ⟨cl, A, q, S, N, H, G⟩ := V
  obtain ⟨T', h', X', e', W, st⟩ := stI X hx hZ eT A (inb_of S hj) hg hs hd
  exact ⟨T', h', _, X', e', fun n0 F q => Fr.snoc X' F q, own_setA A q S N H G rfl W i hi hl, W, st⟩
theorem own_stB (X : Stand p l e R s m args below meth c T locs cells slots) (hx : p.tables.exec = Jvm.exec) (hZ : Z.Warmed39 s.vm) (eT : T.heap = h) (V : own_A Z h a k .byte n xs) {j x : Int32} (i : Nat) (hj : ¬ j < 0 ∧ j < n) (hi : j.toNatClampNeg = i) (hl : i < xs.length)
    {g : JFrame} (hg : g.method = m) {rest : List Value} (hs : g.stack = .int x :: .int j :: .ref a :: rest) (hd : decode c.code g.pc = .ok (.bastore, 1)) :
    ∃ T' h' L', Stand p l e R s m args below meth c T' L' cells slots ∧ T'.heap = h' ∧ (∀ n0, Fr n0 locs → n0 ≤ a → Fr n0 L') ∧ own_A Z h' a k .byte n (xs.set i (nar .byte x)) ∧ Wr h h' a j.toNatClampNeg (.int (nar .byte x)) ∧
      ∀ target, Steps p.tables e below (T'.setTop { g with pc := g.pc + 1, stack := rest }) target → Steps p.tables e below (T.setTop g) target := by
  obtain ⟨cl, A, q, S, N, H, G⟩ := V
  obtain ⟨T', h', X', e', W, st⟩ := stB X hx hZ eT A (inb_of S hj) hg hs hd
  exact ⟨T', h', _, X', e', fun n0 F q => Fr.snoc X' F q, own_setA A q S N H G (fits_nar_byte _) W i hi hl, W, st⟩
theorem own_stC (X : Stand p l e R s m args below meth c T locs cells slots) (hx : p.tables.exec = Jvm.exec) (hZ : Z.Warmed39 s.vm) (eT : T.heap = h) (V : own_A Z h a k .char n xs) {j x : Int32} (i : Nat) (hj : ¬ j < 0 ∧ j < n) (hi : j.toNatClampNeg = i) (hl : i < xs.length)
    {g : JFrame} (hg : g.method = m) {rest : List Value} (hs : g.stack = .int x :: .int j :: .ref a :: rest) (hd : decode c.code g.pc = .ok (.castore, 1)) :
    ∃ T' h' L', Stand p l e R s m args below meth c T' L' cells slots ∧ T'.heap = h' ∧ (∀ n0, Fr n0 locs → n0 ≤ a → Fr n0 L') ∧ own_A Z h' a k .char n (xs.set i (nar .char x)) ∧ Wr h h' a j.toNatClampNeg (.int (nar .char x)) ∧
      ∀ target, Steps p.tables e below (T'.setTop { g with pc := g.pc + 1, stack := rest }) target → Steps p.tables e below (T.setTop g) target := by
  obtain ⟨cl, A, q, S, N, H, G⟩ := V
  obtain ⟨T', h', X', e', W, st⟩ := stC X hx hZ eT A (inb_of S hj) hg hs hd
  exact ⟨T', h', _, X', e', fun n0 F q => Fr.snoc X' F q, own_setA A q S N H G (fits_nar_char _) W i hi hl, W, st⟩
theorem own_getA (V : own_A Z h a k ty n xs) {j : Int32} (hj : ¬ j < 0 ∧ j < n) : ∃ cl : Cell, Arr Z h a cl ty ∧ ¬ (j < 0 ∨ cl.slots.size ≤ j.toNatClampNeg) ∧ cl.slots[j.toNatClampNeg]? = some (.int (xs.getD j.toNatClampNeg 0)) := by
  obtain ⟨cl, A, q, S, N, H, G⟩ := V
  have hin := inb_of S hj
  refine ⟨cl, A, hin, ?_⟩
  rw [H _ (Nat.lt_of_not_le fun q => hin (Or.inr q))]
  simp only [List.getD_eq_getElem?_getD, List.getElem?_map]
  cases xs[j.toNatClampNeg]? <;> rfl
theorem own_ldI (X : Stand p l e R s m args below meth c T locs cells slots) (hx : p.tables.exec = Jvm.exec) (hZ : Z.Warmed39 s.vm) (eT : T.heap = h) (V : own_A Z h a k .int n xs) {j : Int32} (hj : ¬ j < 0 ∧ j < n)
    {g : JFrame} (hg : g.method = m) {rest : List Value} (hs : g.stack = .int j :: .ref a :: rest) (hd : decode c.code g.pc = .ok (.iaload, 1)) :
    ∀ target, Steps p.tables e below (T.setTop { g with pc := g.pc + 1, stack := .int (xs.getD j.toNatClampNeg 0) :: rest }) target → Steps p.tables e below (T.setTop g) target := by
  obtain ⟨cl, A, hin, hat⟩ := own_getA V hj
  exact X.iaload hx (by rw [eT]; exact A.1) (State.isArrayOf_alike hZ.alike A.2.1) A.2.2 hin hat hg hs hd
theorem own_ldB (X : Stand p l e R s m args below meth c T locs cells slots) (hx : p.tables.exec = Jvm.exec) (hZ : Z.Warmed39 s.vm) (eT : T.heap = h) (V : own_A Z h a k .byte n xs) {j : Int32} (hj : ¬ j < 0 ∧ j < n)
    {g : JFrame} (hg : g.method = m) {rest : List Value} (hs : g.stack = .int j :: .ref a :: rest) (hd : decode c.code g.pc = .ok (.baload, 1)) :
    ∀ target, Steps p.tables e below (T.setTop { g with pc := g.pc + 1, stack := .int (xs.getD j.toNatClampNeg 0) :: rest }) target → Steps p.tables e below (T.setTop g) target := by
  obtain ⟨cl, A, hin, hat⟩ := own_getA V hj
  exact X.baloadBytes hx (by rw [eT]; exact A.1) (State.isArrayOf_alike hZ.alike A.2.1) A.2.2 hin hat hg hs hd
theorem own_ldC (X : Stand p l e R s m args below meth c T locs cells slots) (hx : p.tables.exec = Jvm.exec) (hZ : Z.Warmed39 s.vm) (eT : T.heap = h) (V : own_A Z h a k .char n xs) {j : Int32} (hj : ¬ j < 0 ∧ j < n)
    {g : JFrame} (hg : g.method = m) {rest : List Value} (hs : g.stack = .int j :: .ref a :: rest) (hd : decode c.code g.pc = .ok (.caload, 1)) :
    ∀ target, Steps p.tables e below (T.setTop { g with pc := g.pc + 1, stack := .int (xs.getD j.toNatClampNeg 0) :: rest }) target → Steps p.tables e below (T.setTop g) target := by
  obtain ⟨cl, A, hin, hat⟩ := own_getA V hj
  exact X.caload hx (by rw [eT]; exact A.1) (State.isArrayOf_alike hZ.alike A.2.1) A.2.2 hin hat hg hs hd
end OwnArr

def own_tb : List Int32 := [65, 90, 95, 97, 122, 192, 214, 216, 246, 248, 767, 880, 893, 895, 8191, 8204, 8205, 8304, 8591, 11264, 12271, 12289, 55295, 63744, 64975, 65008, 65533, 65536, 983039, 0, -2147483647, 2147483646]
theorem own_nn (p : Int32) : ¬ (p &&& (31 : Int32)) < 0 ∧ (p &&& (31 : Int32)) < 32 := by
  have e := Jvm.Kit.i32_mask p 31 (k := 5) (by decide) (by decide)
  rw [Int32.lt_iff_toInt_lt, Int32.lt_iff_toInt_lt, e, show (32 : Int32).toInt = 32 from rfl, show (0 : Int32).toInt = 0 from rfl]
  omega

theorem d2_0 : decode prog_142_method_2_code 0 = .ok (.iload_n 0, 1) := by decide +kernel
theorem d2_1 : decode prog_142_method_2_code 1 = .ok (.bipush 97, 2) := by decide +kernel
theorem d2_3 : decode prog_142_method_2_code 3 = .ok (.if_icmp .lt 9, 3) := by decide +kernel
theorem d2_6 : decode prog_142_method_2_code 6 = .ok (.iload_n 0, 1) := by decide +kernel
theorem d2_7 : decode prog_142_method_2_code 7 = .ok (.bipush 122, 2) := by decide +kernel
theorem d2_9 : decode prog_142_method_2_code 9 = .ok (.if_icmp .le 182, 3) := by decide +kernel
theorem d2_12 : decode prog_142_method_2_code 12 = .ok (.iload_n 0, 1) := by decide +kernel
theorem d2_13 : decode prog_142_method_2_code 13 = .ok (.bipush 65, 2) := by decide +kernel
theorem d2_15 : decode prog_142_method_2_code 15 = .ok (.if_icmp .lt 9, 3) := by decide +kernel
theorem d2_18 : decode prog_142_method_2_code 18 = .ok (.iload_n 0, 1) := by decide +kernel
theorem d2_19 : decode prog_142_method_2_code 19 = .ok (.bipush 90, 2) := by decide +kernel
theorem d2_21 : decode prog_142_method_2_code 21 = .ok (.if_icmp .le 170, 3) := by decide +kernel
theorem d2_24 : decode prog_142_method_2_code 24 = .ok (.iload_n 0, 1) := by decide +kernel
theorem d2_25 : decode prog_142_method_2_code 25 = .ok (.bipush 95, 2) := by decide +kernel
theorem d2_27 : decode prog_142_method_2_code 27 = .ok (.if_icmp .eq 164, 3) := by decide +kernel
theorem d2_30 : decode prog_142_method_2_code 30 = .ok (.iload_n 0, 1) := by decide +kernel
theorem d2_31 : decode prog_142_method_2_code 31 = .ok (.sipush 192, 3) := by decide +kernel
theorem d2_34 : decode prog_142_method_2_code 34 = .ok (.if_icmp .lt 10, 3) := by decide +kernel
theorem d2_37 : decode prog_142_method_2_code 37 = .ok (.iload_n 0, 1) := by decide +kernel
theorem d2_38 : decode prog_142_method_2_code 38 = .ok (.sipush 214, 3) := by decide +kernel
theorem d2_41 : decode prog_142_method_2_code 41 = .ok (.if_icmp .le 150, 3) := by decide +kernel
theorem d2_44 : decode prog_142_method_2_code 44 = .ok (.iload_n 0, 1) := by decide +kernel
theorem d2_45 : decode prog_142_method_2_code 45 = .ok (.sipush 216, 3) := by decide +kernel
theorem d2_48 : decode prog_142_method_2_code 48 = .ok (.if_icmp .lt 10, 3) := by decide +kernel
theorem d2_51 : decode prog_142_method_2_code 51 = .ok (.iload_n 0, 1) := by decide +kernel
theorem d2_52 : decode prog_142_method_2_code 52 = .ok (.sipush 246, 3) := by decide +kernel
theorem d2_55 : decode prog_142_method_2_code 55 = .ok (.if_icmp .le 136, 3) := by decide +kernel
theorem d2_58 : decode prog_142_method_2_code 58 = .ok (.iload_n 0, 1) := by decide +kernel
theorem d2_59 : decode prog_142_method_2_code 59 = .ok (.sipush 248, 3) := by decide +kernel
theorem d2_62 : decode prog_142_method_2_code 62 = .ok (.if_icmp .lt 10, 3) := by decide +kernel
theorem d2_65 : decode prog_142_method_2_code 65 = .ok (.iload_n 0, 1) := by decide +kernel
theorem d2_66 : decode prog_142_method_2_code 66 = .ok (.sipush 767, 3) := by decide +kernel
theorem d2_69 : decode prog_142_method_2_code 69 = .ok (.if_icmp .le 122, 3) := by decide +kernel
theorem d2_72 : decode prog_142_method_2_code 72 = .ok (.iload_n 0, 1) := by decide +kernel
theorem d2_73 : decode prog_142_method_2_code 73 = .ok (.sipush 880, 3) := by decide +kernel
theorem d2_76 : decode prog_142_method_2_code 76 = .ok (.if_icmp .lt 10, 3) := by decide +kernel
theorem d2_79 : decode prog_142_method_2_code 79 = .ok (.iload_n 0, 1) := by decide +kernel
theorem d2_80 : decode prog_142_method_2_code 80 = .ok (.sipush 893, 3) := by decide +kernel
theorem d2_83 : decode prog_142_method_2_code 83 = .ok (.if_icmp .le 108, 3) := by decide +kernel
theorem d2_86 : decode prog_142_method_2_code 86 = .ok (.iload_n 0, 1) := by decide +kernel
theorem d2_87 : decode prog_142_method_2_code 87 = .ok (.sipush 895, 3) := by decide +kernel
theorem d2_90 : decode prog_142_method_2_code 90 = .ok (.if_icmp .lt 10, 3) := by decide +kernel
theorem d2_93 : decode prog_142_method_2_code 93 = .ok (.iload_n 0, 1) := by decide +kernel
theorem d2_94 : decode prog_142_method_2_code 94 = .ok (.sipush 8191, 3) := by decide +kernel
theorem d2_97 : decode prog_142_method_2_code 97 = .ok (.if_icmp .le 94, 3) := by decide +kernel
theorem d2_100 : decode prog_142_method_2_code 100 = .ok (.iload_n 0, 1) := by decide +kernel
theorem d2_101 : decode prog_142_method_2_code 101 = .ok (.sipush 8204, 3) := by decide +kernel
theorem d2_104 : decode prog_142_method_2_code 104 = .ok (.if_icmp .lt 10, 3) := by decide +kernel
theorem d2_107 : decode prog_142_method_2_code 107 = .ok (.iload_n 0, 1) := by decide +kernel
theorem d2_108 : decode prog_142_method_2_code 108 = .ok (.sipush 8205, 3) := by decide +kernel
theorem d2_111 : decode prog_142_method_2_code 111 = .ok (.if_icmp .le 80, 3) := by decide +kernel
theorem d2_114 : decode prog_142_method_2_code 114 = .ok (.iload_n 0, 1) := by decide +kernel
theorem d2_115 : decode prog_142_method_2_code 115 = .ok (.sipush 8304, 3) := by decide +kernel
theorem d2_118 : decode prog_142_method_2_code 118 = .ok (.if_icmp .lt 10, 3) := by decide +kernel
theorem d2_121 : decode prog_142_method_2_code 121 = .ok (.iload_n 0, 1) := by decide +kernel
theorem d2_122 : decode prog_142_method_2_code 122 = .ok (.sipush 8591, 3) := by decide +kernel
theorem d2_125 : decode prog_142_method_2_code 125 = .ok (.if_icmp .le 66, 3) := by decide +kernel
theorem d2_128 : decode prog_142_method_2_code 128 = .ok (.iload_n 0, 1) := by decide +kernel
theorem d2_129 : decode prog_142_method_2_code 129 = .ok (.sipush 11264, 3) := by decide +kernel
theorem d2_132 : decode prog_142_method_2_code 132 = .ok (.if_icmp .lt 10, 3) := by decide +kernel
theorem d2_135 : decode prog_142_method_2_code 135 = .ok (.iload_n 0, 1) := by decide +kernel
theorem d2_136 : decode prog_142_method_2_code 136 = .ok (.sipush 12271, 3) := by decide +kernel
theorem d2_139 : decode prog_142_method_2_code 139 = .ok (.if_icmp .le 52, 3) := by decide +kernel
theorem d2_142 : decode prog_142_method_2_code 142 = .ok (.iload_n 0, 1) := by decide +kernel
theorem d2_143 : decode prog_142_method_2_code 143 = .ok (.sipush 12289, 3) := by decide +kernel
theorem d2_146 : decode prog_142_method_2_code 146 = .ok (.if_icmp .lt 9, 3) := by decide +kernel
theorem d2_149 : decode prog_142_method_2_code 149 = .ok (.iload_n 0, 1) := by decide +kernel
theorem d2_150 : decode prog_142_method_2_code 150 = .ok (.ldc 7, 2) := by decide +kernel
theorem d2_152 : decode prog_142_method_2_code 152 = .ok (.if_icmp .le 39, 3) := by decide +kernel
theorem d2_155 : decode prog_142_method_2_code 155 = .ok (.iload_n 0, 1) := by decide +kernel
theorem d2_156 : decode prog_142_method_2_code 156 = .ok (.ldc 8, 2) := by decide +kernel
theorem d2_158 : decode prog_142_method_2_code 158 = .ok (.if_icmp .lt 9, 3) := by decide +kernel
theorem d2_161 : decode prog_142_method_2_code 161 = .ok (.iload_n 0, 1) := by decide +kernel
theorem d2_162 : decode prog_142_method_2_code 162 = .ok (.ldc 9, 2) := by decide +kernel
theorem d2_164 : decode prog_142_method_2_code 164 = .ok (.if_icmp .le 27, 3) := by decide +kernel
theorem d2_167 : decode prog_142_method_2_code 167 = .ok (.iload_n 0, 1) := by decide +kernel
theorem d2_168 : decode prog_142_method_2_code 168 = .ok (.ldc 10, 2) := by decide +kernel
theorem d2_170 : decode prog_142_method_2_code 170 = .ok (.if_icmp .lt 9, 3) := by decide +kernel
theorem d2_173 : decode prog_142_method_2_code 173 = .ok (.iload_n 0, 1) := by decide +kernel
theorem d2_174 : decode prog_142_method_2_code 174 = .ok (.ldc 11, 2) := by decide +kernel
theorem d2_176 : decode prog_142_method_2_code 176 = .ok (.if_icmp .le 15, 3) := by decide +kernel
theorem d2_179 : decode prog_142_method_2_code 179 = .ok (.iload_n 0, 1) := by decide +kernel
theorem d2_180 : decode prog_142_method_2_code 180 = .ok (.ldc 12, 2) := by decide +kernel
theorem d2_182 : decode prog_142_method_2_code 182 = .ok (.if_icmp .lt 13, 3) := by decide +kernel
theorem d2_185 : decode prog_142_method_2_code 185 = .ok (.iload_n 0, 1) := by decide +kernel
theorem d2_186 : decode prog_142_method_2_code 186 = .ok (.ldc 13, 2) := by decide +kernel
theorem d2_188 : decode prog_142_method_2_code 188 = .ok (.if_icmp .gt 7, 3) := by decide +kernel
theorem d2_191 : decode prog_142_method_2_code 191 = .ok (.iconst 1, 1) := by decide +kernel
theorem d2_192 : decode prog_142_method_2_code 192 = .ok (.goto 4, 3) := by decide +kernel
theorem d2_195 : decode prog_142_method_2_code 195 = .ok (.iconst 0, 1) := by decide +kernel
theorem d2_196 : decode prog_142_method_2_code 196 = .ok (.ireturn, 1) := by decide +kernel
theorem pn_2 : plainName "com/example/unnest/unnest/xml/XmlChars" = true := by first | (simp [plainName, overriddenIn]; done) | decide +kernel
theorem ef_2 (m : MethodId) (p0 : Int32) : entryFrame m #[(.int p0)] 1 = mkF m 0 #[.val (.int p0)] [] := by first | (simp [entryFrame, mkF, argsToLocals, Value.category]; done) | rfl
def own_f2_191 : Int32 :=
  (1 : Int32)
def own_f2_195 : Int32 :=
  (0 : Int32)
def own_f2_179 (p0 : Int32) : Int32 :=
  if p0 < (65536 : Int32) then
    (own_f2_195)
  else
    if (983039 : Int32) < p0 then
      (own_f2_195)
    else
      (own_f2_191)
def own_f2_167 (p0 : Int32) : Int32 :=
  if p0 < (65008 : Int32) then
    (own_f2_179 p0)
  else
    if (65533 : Int32) < p0 then
      (own_f2_179 p0)
    else
      (own_f2_191)
def own_f2_155 (p0 : Int32) : Int32 :=
  if p0 < (63744 : Int32) then
    (own_f2_167 p0)
  else
    if (64975 : Int32) < p0 then
      (own_f2_167 p0)
    else
      (own_f2_191)
def own_f2_142 (p0 : Int32) : Int32 :=
  if p0 < (12289 : Int32) then
    (own_f2_155 p0)
  else
    if (55295 : Int32) < p0 then
      (own_f2_155 p0)
    else
      (own_f2_191)
def own_f2_128 (p0 : Int32) : Int32 :=
  if p0 < (11264 : Int32) then
    (own_f2_142 p0)
  else
    if (12271 : Int32) < p0 then
      (own_f2_142 p0)
    else
      (own_f2_191)
def own_f2_114 (p0 : Int32) : Int32 :=
  if p0 < (8304 : Int32) then
    (own_f2_128 p0)
  else
    if (8591 : Int32) < p0 then
      (own_f2_128 p0)
    else
      (own_f2_191)
def own_f2_100 (p0 : Int32) : Int32 :=
  if p0 < (8204 : Int32) then
    (own_f2_114 p0)
  else
    if (8205 : Int32) < p0 then
      (own_f2_114 p0)
    else
      (own_f2_191)
def own_f2_86 (p0 : Int32) : Int32 :=
  if p0 < (895 : Int32) then
    (own_f2_100 p0)
  else
    if (8191 : Int32) < p0 then
      (own_f2_100 p0)
    else
      (own_f2_191)
def own_f2_72 (p0 : Int32) : Int32 :=
  if p0 < (880 : Int32) then
    (own_f2_86 p0)
  else
    if (893 : Int32) < p0 then
      (own_f2_86 p0)
    else
      (own_f2_191)
def own_f2_58 (p0 : Int32) : Int32 :=
  if p0 < (248 : Int32) then
    (own_f2_72 p0)
  else
    if (767 : Int32) < p0 then
      (own_f2_72 p0)
    else
      (own_f2_191)
def own_f2_44 (p0 : Int32) : Int32 :=
  if p0 < (216 : Int32) then
    (own_f2_58 p0)
  else
    if (246 : Int32) < p0 then
      (own_f2_58 p0)
    else
      (own_f2_191)
def own_f2_24 (p0 : Int32) : Int32 :=
  if p0 = (95 : Int32) then
    (own_f2_191)
  else
    if p0 < (192 : Int32) then
      (own_f2_44 p0)
    else
      if (214 : Int32) < p0 then
        (own_f2_44 p0)
      else
        (own_f2_191)
def own_f2_12 (p0 : Int32) : Int32 :=
  if p0 < (65 : Int32) then
    (own_f2_24 p0)
  else
    if (90 : Int32) < p0 then
      (own_f2_24 p0)
    else
      (own_f2_191)
def own_f2 (p0 : Int32) : Int32 :=
  if p0 < (97 : Int32) then
    (own_f2_12 p0)
  else
    if (122 : Int32) < p0 then
      (own_f2_12 p0)
    else
      (own_f2_191)
abbrev own_room2 : Room := { frames := 0, cells := 0, slots := 0, locals := 0 }
set_option maxRecDepth 65536 in
set_option maxHeartbeats 40000000 in
theorem rm2 (l : Launch) (Z : State) (a0 : Array Value) (hw : ∀ d ∈ tables_1, d.before a0 Z = true) (ws : List Jvm.Cond) (p0 : Int32) (h0 : Heap) (n0 : Nat) (Z0 : n0 ≤ h0.size) :
    MetFree l (⟨"com/example/unnest/unnest/xml/XmlChars", "isNameStart", "(I)Z"⟩ : MethodName) (head1 (Jvm.Cond.code (⟨"com/example/unnest/unnest/xml/XmlChars", "isNameStart", "(I)Z"⟩ : MethodName) prog_142_method_2_code 1 (some .boolean) :: ws) own_room2) (fun a U => a = #[(.int p0)] ∧ Z.Warmed39 U.vm ∧ U.heap = h0) (fun _ _ _ _ _ => True) (fun _ U o U' => ∃ v L, o = .returned v ∧ own_Qp (some (.int (own_f2 p0))) h0 v U'.heap L ∧ FrameEnd U o U' L own_room2.cells own_room2.slots) := by
  refine MetFree.of_bodySF (plainFor_of_name pn_2) hisR ?_
  intro p e s m args below meth c s₁ Bd hml0 hP hK
  obtain ⟨rfl, hZ, hh⟩ := hP
  have hx := Bd.exec
  have hby := Bd.bytes
  have hml : c.maxLocals = 1 := hml0
  have hown : s.vm.findClass "com/example/unnest/unnest/xml/XmlChars" = some m.cls := findClass_of_methodNamed Bd.named
  have hnm := (name_of_methodNamed Bd.named Bd.method).1
  have X0 : Stand p l e own_room2 s m #[(.int p0)] below meth c s₁ [] 0 0 := Stand.of_body Bd
  have e0 : s₁.heap = h0 := by rw [← hh, Bd.state]; rfl
  have N0 := Fr.nil n0
  refine own_enter (ef_2 m p0) ?_
  show own_Goes p.tables e below (s₁.setTop (mkF m 0 #[.val (.int p0)] [])) (own_P s (own_Qp (some (.int (own_f2 p0))) h0) own_room2.cells own_room2.slots)
  refine own_step (fun _ => XS.iloadN X0.here hx rfl (hb hby d2_0) rfl) ?_
  show own_Goes p.tables e below (s₁.setTop (mkF m 1 #[.val (.int p0)] [(.int p0)])) _
  refine own_step (fun _ => XS.bipush X0.here hx rfl (hb hby d2_1)) ?_
  show own_Goes p.tables e below (s₁.setTop (mkF m 3 #[.val (.int p0)] [(.int (97 : Int32)), (.int p0)])) _
  have J191 : ∀ (T_191 : State) (X_191 : Stand p l e own_room2 s m #[(.int p0)] below meth c T_191 [] 0 0) (e_191 : T_191.heap = h0), own_Goes p.tables e below (T_191.setTop (mkF m 191 #[.val (.int p0)] [])) (own_P s (own_Qp (some (.int (own_f2_191))) h0) own_room2.cells own_room2.slots) := by
    intro T_191 X_191 e_191
    refine own_step (fun _ => XS.iconst X_191.here hx rfl (hb hby d2_191)) ?_
    show own_Goes p.tables e below (T_191.setTop (mkF m 192 #[.val (.int p0)] [(.int (1 : Int32))])) _
    refine own_step (fun _ => XS.goto X_191.here hx rfl (pc0 := 192) (pc' := 196) rfl (hb hby d2_192) (by decide) (by decide)) ?_
    show own_Goes p.tables e below (T_191.setTop (mkF m 196 #[.val (.int p0)] [(.int (1 : Int32))])) _
    have hv : (own_f2_191) = (1 : Int32) := by exact rfl
    rw [hv]
    exact own_retN X_191 hx (t := .boolean) Bd.returns (by simp) (hb hby d2_196) (BodyLoose.notSynchronized Bd) (w := (1 : Int32)) rfl ⟨rfl, rfl, e_191⟩ (by decide) (by decide)
  have J12 : ∀ (T_12 : State) (X_12 : Stand p l e own_room2 s m #[(.int p0)] below meth c T_12 [] 0 0) (e_12 : T_12.heap = h0), own_Goes p.tables e below (T_12.setTop (mkF m 12 #[.val (.int p0)] [])) (own_P s (own_Qp (some (.int (own_f2_12 p0))) h0) own_room2.cells own_room2.slots) := by
    intro T_12 X_12 e_12
    refine own_step (fun _ => XS.iloadN X_12.here hx rfl (hb hby d2_12) rfl) ?_
    show own_Goes p.tables e below (T_12.setTop (mkF m 13 #[.val (.int p0)] [(.int p0)])) _
    refine own_step (fun _ => XS.bipush X_12.here hx rfl (hb hby d2_13)) ?_
    show own_Goes p.tables e below (T_12.setTop (mkF m 15 #[.val (.int p0)] [(.int (65 : Int32)), (.int p0)])) _
    have J24 : ∀ (T_24 : State) (X_24 : Stand p l e own_room2 s m #[(.int p0)] below meth c T_24 [] 0 0) (e_24 : T_24.heap = h0), own_Goes p.tables e below (T_24.setTop (mkF m 24 #[.val (.int p0)] [])) (own_P s (own_Qp (some (.int (own_f2_24 p0))) h0) own_room2.cells own_room2.slots) := by
      intro T_24 X_24 e_24
      refine own_step (fun _ => XS.iloadN X_24.here hx rfl (hb hby d2_24) rfl) ?_
      show own_Goes p.tables e below (T_24.setTop (mkF m 25 #[.val (.int p0)] [(.int p0)])) _
      refine own_step (fun _ => XS.bipush X_24.here hx rfl (hb hby d2_25)) ?_
      show own_Goes p.tables e below (T_24.setTop (mkF m 27 #[.val (.int p0)] [(.int (95 : Int32)), (.int p0)])) _
      by_cases hc27 : p0 = (95 : Int32)
      · refine own_step (fun _ => XS.icmpYes X_24.here hx rfl (pc0 := 27) (pc' := 191) rfl (hb hby d2_27) rfl (Jvm.Free.XT.ii_eq_t hc27) (by decide) (by decide)) ?_
        show own_Goes p.tables e below (T_24.setTop (mkF m 191 #[.val (.int p0)] [])) _
        have hv : (own_f2_24 p0) = (own_f2_191) := by exact (if_pos hc27)
        rw [hv]
        exact J191 T_24 X_24 e_24
      · refine own_step (fun _ => XS.icmpNo X_24.here hx rfl (hb hby d2_27) rfl (Jvm.Free.XT.ii_eq_f hc27)) ?_
        show own_Goes p.tables e below (T_24.setTop (mkF m 30 #[.val (.int p0)] [])) _
        refine own_step (fun _ => XS.iloadN X_24.here hx rfl (hb hby d2_30) rfl) ?_
        show own_Goes p.tables e below (T_24.setTop (mkF m 31 #[.val (.int p0)] [(.int p0)])) _
        refine own_step (fun _ => XS.sipush X_24.here hx rfl (hb hby d2_31)) ?_
        show own_Goes p.tables e below (T_24.setTop (mkF m 34 #[.val (.int p0)] [(.int (192 : Int32)), (.int p0)])) _
        have J44 : ∀ (T_44 : State) (X_44 : Stand p l e own_room2 s m #[(.int p0)] below meth c T_44 [] 0 0) (e_44 : T_44.heap = h0), own_Goes p.tables e below (T_44.setTop (mkF m 44 #[.val (.int p0)] [])) (own_P s (own_Qp (some (.int (own_f2_44 p0))) h0) own_room2.cells own_room2.slots) := by
          intro T_44 X_44 e_44
          refine own_step (fun _ => XS.iloadN X_44.here hx rfl (hb hby d2_44) rfl) ?_
          show own_Goes p.tables e below (T_44.setTop (mkF m 45 #[.val (.int p0)] [(.int p0)])) _
          refine own_step (fun _ => XS.sipush X_44.here hx rfl (hb hby d2_45)) ?_
          show own_Goes p.tables e below (T_44.setTop (mkF m 48 #[.val (.int p0)] [(.int (216 : Int32)), (.int p0)])) _
          have J58 : ∀ (T_58 : State) (X_58 : Stand p l e own_room2 s m #[(.int p0)] below meth c T_58 [] 0 0) (e_58 : T_58.heap = h0), own_Goes p.tables e below (T_58.setTop (mkF m 58 #[.val (.int p0)] [])) (own_P s (own_Qp (some (.int (own_f2_58 p0))) h0) own_room2.cells own_room2.slots) := by
            intro T_58 X_58 e_58
            refine own_step (fun _ => XS.iloadN X_58.here hx rfl (hb hby d2_58) rfl) ?_
            show own_Goes p.tables e below (T_58.setTop (mkF m 59 #[.val (.int p0)] [(.int p0)])) _
            refine own_step (fun _ => XS.sipush X_58.here hx rfl (hb hby d2_59)) ?_
            show own_Goes p.tables e below (T_58.setTop (mkF m 62 #[.val (.int p0)] [(.int (248 : Int32)), (.int p0)])) _
            have J72 : ∀ (T_72 : State) (X_72 : Stand p l e own_room2 s m #[(.int p0)] below meth c T_72 [] 0 0) (e_72 : T_72.heap = h0), own_Goes p.tables e below (T_72.setTop (mkF m 72 #[.val (.int p0)] [])) (own_P s (own_Qp (some (.int (own_f2_72 p0))) h0) own_room2.cells own_room2.slots) := by
              intro T_72 X_72 e_72
              refine own_step (fun _ => XS.iloadN X_72.here hx rfl (hb hby d2_72) rfl) ?_
              show own_Goes p.tables e below (T_72.setTop (mkF m 73 #[.val (.int p0)] [(.int p0)])) _
              refine own_step (fun _ => XS.sipush X_72.here hx rfl (hb hby d2_73)) ?_
              show own_Goes p.tables e below (T_72.setTop (mkF m 76 #[.val (.int p0)] [(.int (880 : Int32)), (.int p0)])) _
              have J86 : ∀ (T_86 : State) (X_86 : Stand p l e own_room2 s m #[(.int p0)] below meth c T_86 [] 0 0) (e_86 : T_86.heap = h0), own_Goes p.tables e below (T_86.setTop (mkF m 86 #[.val (.int p0)] [])) (own_P s (own_Qp (some (.int (own_f2_86 p0))) h0) own_room2.cells own_room2.slots) := by
                intro T_86 X_86 e_86
                refine own_step (fun _ => XS.iloadN X_86.here hx rfl (hb hby d2_86) rfl) ?_
                show own_Goes p.tables e below (T_86.setTop (mkF m 87 #[.val (.int p0)] [(.int p0)])) _
                refine own_step (fun _ => XS.sipush X_86.here hx rfl (hb hby d2_87)) ?_
                show own_Goes p.tables e below (T_86.setTop (mkF m 90 #[.val (.int p0)] [(.int (895 : Int32)), (.int p0)])) _
                have J100 : ∀ (T_100 : State) (X_100 : Stand p l e own_room2 s m #[(.int p0)] below meth c T_100 [] 0 0) (e_100 : T_100.heap = h0), own_Goes p.tables e below (T_100.setTop (mkF m 100 #[.val (.int p0)] [])) (own_P s (own_Qp (some (.int (own_f2_100 p0))) h0) own_room2.cells own_room2.slots) := by
                  intro T_100 X_100 e_100
                  refine own_step (fun _ => XS.iloadN X_100.here hx rfl (hb hby d2_100) rfl) ?_
                  show own_Goes p.tables e below (T_100.setTop (mkF m 101 #[.val (.int p0)] [(.int p0)])) _
                  refine own_step (fun _ => XS.sipush X_100.here hx rfl (hb hby d2_101)) ?_
                  show own_Goes p.tables e below (T_100.setTop (mkF m 104 #[.val (.int p0)] [(.int (8204 : Int32)), (.int p0)])) _
                  have J114 : ∀ (T_114 : State) (X_114 : Stand p l e own_room2 s m #[(.int p0)] below meth c T_114 [] 0 0) (e_114 : T_114.heap = h0), own_Goes p.tables e below (T_114.setTop (mkF m 114 #[.val (.int p0)] [])) (own_P s (own_Qp (some (.int (own_f2_114 p0))) h0) own_room2.cells own_room2.slots) := by
                    intro T_114 X_114 e_114
                    refine own_step (fun _ => XS.iloadN X_114.here hx rfl (hb hby d2_114) rfl) ?_
                    show own_Goes p.tables e below (T_114.setTop (mkF m 115 #[.val (.int p0)] [(.int p0)])) _
                    refine own_step (fun _ => XS.sipush X_114.here hx rfl (hb hby d2_115)) ?_
                    show own_Goes p.tables e below (T_114.setTop (mkF m 118 #[.val (.int p0)] [(.int (8304 : Int32)), (.int p0)])) _
                    have J128 : ∀ (T_128 : State) (X_128 : Stand p l e own_room2 s m #[(.int p0)] below meth c T_128 [] 0 0) (e_128 : T_128.heap = h0), own_Goes p.tables e below (T_128.setTop (mkF m 128 #[.val (.int p0)] [])) (own_P s (own_Qp (some (.int (own_f2_128 p0))) h0) own_room2.cells own_room2.slots) := by
                      intro T_128 X_128 e_128
                      refine own_step (fun _ => XS.iloadN X_128.here hx rfl (hb hby d2_128) rfl) ?_
                      show own_Goes p.tables e below (T_128.setTop (mkF m 129 #[.val (.int p0)] [(.int p0)])) _
                      refine own_step (fun _ => XS.sipush X_128.here hx rfl (hb hby d2_129)) ?_
                      show own_Goes p.tables e below (T_128.setTop (mkF m 132 #[.val (.int p0)] [(.int (11264 : Int32)), (.int p0)])) _
                      have J142 : ∀ (T_142 : State) (X_142 : Stand p l e own_room2 s m #[(.int p0)] below meth c T_142 [] 0 0) (e_142 : T_142.heap = h0), own_Goes p.tables e below (T_142.setTop (mkF m 142 #[.val (.int p0)] [])) (own_P s (own_Qp (some (.int (own_f2_142 p0))) h0) own_room2.cells own_room2.slots) := by
                        intro T_142 X_142 e_142
                        refine own_step (fun _ => XS.iloadN X_142.here hx rfl (hb hby d2_142) rfl) ?_
                        show own_Goes p.tables e below (T_142.setTop (mkF m 143 #[.val (.int p0)] [(.int p0)])) _
                        refine own_step (fun _ => XS.sipush X_142.here hx rfl (hb hby d2_143)) ?_
                        show own_Goes p.tables e below (T_142.setTop (mkF m 146 #[.val (.int p0)] [(.int (12289 : Int32)), (.int p0)])) _
                        have J155 : ∀ (T_155 : State) (X_155 : Stand p l e own_room2 s m #[(.int p0)] below meth c T_155 [] 0 0) (e_155 : T_155.heap = h0), own_Goes p.tables e below (T_155.setTop (mkF m 155 #[.val (.int p0)] [])) (own_P s (own_Qp (some (.int (own_f2_155 p0))) h0) own_room2.cells own_room2.slots) := by
                          intro T_155 X_155 e_155
                          refine own_step (fun _ => XS.iloadN X_155.here hx rfl (hb hby d2_155) rfl) ?_
                          show own_Goes p.tables e below (T_155.setTop (mkF m 156 #[.val (.int p0)] [(.int p0)])) _
                          refine own_step (X_155.ldcInt hx hown (mvT hZ (hw _ (List.mem_of_getElem? (i := 18) rfl))) (g := (mkF m 156 #[.val (.int p0)] [(.int p0)])) rfl (hb hby d2_156)) ?_
                          show own_Goes p.tables e below (T_155.setTop (mkF m 158 #[.val (.int p0)] [(.int (63744 : Int32)), (.int p0)])) _
                          have J167 : ∀ (T_167 : State) (X_167 : Stand p l e own_room2 s m #[(.int p0)] below meth c T_167 [] 0 0) (e_167 : T_167.heap = h0), own_Goes p.tables e below (T_167.setTop (mkF m 167 #[.val (.int p0)] [])) (own_P s (own_Qp (some (.int (own_f2_167 p0))) h0) own_room2.cells own_room2.slots) := by
                            intro T_167 X_167 e_167
                            refine own_step (fun _ => XS.iloadN X_167.here hx rfl (hb hby d2_167) rfl) ?_
                            show own_Goes p.tables e below (T_167.setTop (mkF m 168 #[.val (.int p0)] [(.int p0)])) _
                            refine own_step (X_167.ldcInt hx hown (mvT hZ (hw _ (List.mem_of_getElem? (i := 19) rfl))) (g := (mkF m 168 #[.val (.int p0)] [(.int p0)])) rfl (hb hby d2_168)) ?_
                            show own_Goes p.tables e below (T_167.setTop (mkF m 170 #[.val (.int p0)] [(.int (65008 : Int32)), (.int p0)])) _
                            have J179 : ∀ (T_179 : State) (X_179 : Stand p l e own_room2 s m #[(.int p0)] below meth c T_179 [] 0 0) (e_179 : T_179.heap = h0), own_Goes p.tables e below (T_179.setTop (mkF m 179 #[.val (.int p0)] [])) (own_P s (own_Qp (some (.int (own_f2_179 p0))) h0) own_room2.cells own_room2.slots) := by
                              intro T_179 X_179 e_179
                              refine own_step (fun _ => XS.iloadN X_179.here hx rfl (hb hby d2_179) rfl) ?_
                              show own_Goes p.tables e below (T_179.setTop (mkF m 180 #[.val (.int p0)] [(.int p0)])) _
                              refine own_step (X_179.ldcInt hx hown (mvT hZ (hw _ (List.mem_of_getElem? (i := 20) rfl))) (g := (mkF m 180 #[.val (.int p0)] [(.int p0)])) rfl (hb hby d2_180)) ?_
                              show own_Goes p.tables e below (T_179.setTop (mkF m 182 #[.val (.int p0)] [(.int (65536 : Int32)), (.int p0)])) _
                              have J195 : ∀ (T_195 : State) (X_195 : Stand p l e own_room2 s m #[(.int p0)] below meth c T_195 [] 0 0) (e_195 : T_195.heap = h0), own_Goes p.tables e below (T_195.setTop (mkF m 195 #[.val (.int p0)] [])) (own_P s (own_Qp (some (.int (own_f2_195))) h0) own_room2.cells own_room2.slots) := by
                                intro T_195 X_195 e_195
                                refine own_step (fun _ => XS.iconst X_195.here hx rfl (hb hby d2_195)) ?_
                                show own_Goes p.tables e below (T_195.setTop (mkF m 196 #[.val (.int p0)] [(.int (0 : Int32))])) _
                                have hv : (own_f2_195) = (0 : Int32) := by exact rfl
                                rw [hv]
                                exact own_retN X_195 hx (t := .boolean) Bd.returns (by simp) (hb hby d2_196) (BodyLoose.notSynchronized Bd) (w := (0 : Int32)) rfl ⟨rfl, rfl, e_195⟩ (by decide) (by decide)
                              by_cases hc182 : p0 < (65536 : Int32)
                              · refine own_step (fun _ => XS.icmpYes X_179.here hx rfl (pc0 := 182) (pc' := 195) rfl (hb hby d2_182) rfl (Jvm.Free.XT.ii_lt_t hc182) (by decide) (by decide)) ?_
                                show own_Goes p.tables e below (T_179.setTop (mkF m 195 #[.val (.int p0)] [])) _
                                have hv : (own_f2_179 p0) = (own_f2_195) := by exact (if_pos hc182)
                                rw [hv]
                                exact J195 T_179 X_179 e_179
                              · refine own_step (fun _ => XS.icmpNo X_179.here hx rfl (hb hby d2_182) rfl (Jvm.Free.XT.ii_lt_f hc182)) ?_
                                show own_Goes p.tables e below (T_179.setTop (mkF m 185 #[.val (.int p0)] [])) _
                                refine own_step (fun _ => XS.iloadN X_179.here hx rfl (hb hby d2_185) rfl) ?_
                                show own_Goes p.tables e below (T_179.setTop (mkF m 186 #[.val (.int p0)] [(.int p0)])) _
                                refine own_step (X_179.ldcInt hx hown (mvT hZ (hw _ (List.mem_of_getElem? (i := 31) rfl))) (g := (mkF m 186 #[.val (.int p0)] [(.int p0)])) rfl (hb hby d2_186)) ?_
                                show own_Goes p.tables e below (T_179.setTop (mkF m 188 #[.val (.int p0)] [(.int (983039 : Int32)), (.int p0)])) _
                                by_cases hc188 : (983039 : Int32) < p0
                                · refine own_step (fun _ => XS.icmpYes X_179.here hx rfl (pc0 := 188) (pc' := 195) rfl (hb hby d2_188) rfl (Jvm.Free.XT.ii_gt_t hc188) (by decide) (by decide)) ?_
                                  show own_Goes p.tables e below (T_179.setTop (mkF m 195 #[.val (.int p0)] [])) _
                                  have hv : (own_f2_179 p0) = (own_f2_195) := by exact ((if_neg hc182)).trans (if_pos hc188)
                                  rw [hv]
                                  exact J195 T_179 X_179 e_179
                                · refine own_step (fun _ => XS.icmpNo X_179.here hx rfl (hb hby d2_188) rfl (Jvm.Free.XT.ii_gt_f hc188)) ?_
                                  show own_Goes p.tables e below (T_179.setTop (mkF m 191 #[.val (.int p0)] [])) _
                                  have hv : (own_f2_179 p0) = (own_f2_191) := by exact ((if_neg hc182)).trans (if_neg hc188)
                                  rw [hv]
                                  exact J191 T_179 X_179 e_179
                            by_cases hc170 : p0 < (65008 : Int32)
                            · refine own_step (fun _ => XS.icmpYes X_167.here hx rfl (pc0 := 170) (pc' := 179) rfl (hb hby d2_170) rfl (Jvm.Free.XT.ii_lt_t hc170) (by decide) (by decide)) ?_
                              show own_Goes p.tables e below (T_167.setTop (mkF m 179 #[.val (.int p0)] [])) _
                              have hv : (own_f2_167 p0) = (own_f2_179 p0) := by exact (if_pos hc170)
                              rw [hv]
                              exact J179 T_167 X_167 e_167
                            · refine own_step (fun _ => XS.icmpNo X_167.here hx rfl (hb hby d2_170) rfl (Jvm.Free.XT.ii_lt_f hc170)) ?_
                              show own_Goes p.tables e below (T_167.setTop (mkF m 173 #[.val (.int p0)] [])) _
                              refine own_step (fun _ => XS.iloadN X_167.here hx rfl (hb hby d2_173) rfl) ?_
                              show own_Goes p.tables e below (T_167.setTop (mkF m 174 #[.val (.int p0)] [(.int p0)])) _
                              refine own_step (X_167.ldcInt hx hown (mvT hZ (hw _ (List.mem_of_getElem? (i := 30) rfl))) (g := (mkF m 174 #[.val (.int p0)] [(.int p0)])) rfl (hb hby d2_174)) ?_
                              show own_Goes p.tables e below (T_167.setTop (mkF m 176 #[.val (.int p0)] [(.int (65533 : Int32)), (.int p0)])) _
                              by_cases hc176 : (65533 : Int32) < p0
                              · refine own_step (fun _ => XS.icmpNo X_167.here hx rfl (hb hby d2_176) rfl (Jvm.Free.XT.ii_le_f hc176)) ?_
                                show own_Goes p.tables e below (T_167.setTop (mkF m 179 #[.val (.int p0)] [])) _
                                have hv : (own_f2_167 p0) = (own_f2_179 p0) := by exact ((if_neg hc170)).trans (if_pos hc176)
                                rw [hv]
                                exact J179 T_167 X_167 e_167
                              · refine own_step (fun _ => XS.icmpYes X_167.here hx rfl (pc0 := 176) (pc' := 191) rfl (hb hby d2_176) rfl (Jvm.Free.XT.ii_le_t hc176) (by decide) (by decide)) ?_
                                show own_Goes p.tables e below (T_167.setTop (mkF m 191 #[.val (.int p0)] [])) _
                                have hv : (own_f2_167 p0) = (own_f2_191) := by exact ((if_neg hc170)).trans (if_neg hc176)
                                rw [hv]
                                exact J191 T_167 X_167 e_167
                          by_cases hc158 : p0 < (63744 : Int32)
                          · refine own_step (fun _ => XS.icmpYes X_155.here hx rfl (pc0 := 158) (pc' := 167) rfl (hb hby d2_158) rfl (Jvm.Free.XT.ii_lt_t hc158) (by decide) (by decide)) ?_
                            show own_Goes p.tables e below (T_155.setTop (mkF m 167 #[.val (.int p0)] [])) _
                            have hv : (own_f2_155 p0) = (own_f2_167 p0) := by exact (if_pos hc158)
                            rw [hv]
                            exact J167 T_155 X_155 e_155
                          · refine own_step (fun _ => XS.icmpNo X_155.here hx rfl (hb hby d2_158) rfl (Jvm.Free.XT.ii_lt_f hc158)) ?_
                            show own_Goes p.tables e below (T_155.setTop (mkF m 161 #[.val (.int p0)] [])) _
                            refine own_step (fun _ => XS.iloadN X_155.here hx rfl (hb hby d2_161) rfl) ?_
                            show own_Goes p.tables e below (T_155.setTop (mkF m 162 #[.val (.int p0)] [(.int p0)])) _
                            refine own_step (X_155.ldcInt hx hown (mvT hZ (hw _ (List.mem_of_getElem? (i := 29) rfl))) (g := (mkF m 162 #[.val (.int p0)] [(.int p0)])) rfl (hb hby d2_162)) ?_
                            show own_Goes p.tables e below (T_155.setTop (mkF m 164 #[.val (.int p0)] [(.int (64975 : Int32)), (.int p0)])) _
                            by_cases hc164 : (64975 : Int32) < p0
                            · refine own_step (fun _ => XS.icmpNo X_155.here hx rfl (hb hby d2_164) rfl (Jvm.Free.XT.ii_le_f hc164)) ?_
                              show own_Goes p.tables e below (T_155.setTop (mkF m 167 #[.val (.int p0)] [])) _
                              have hv : (own_f2_155 p0) = (own_f2_167 p0) := by exact ((if_neg hc158)).trans (if_pos hc164)
                              rw [hv]
                              exact J167 T_155 X_155 e_155
                            · refine own_step (fun _ => XS.icmpYes X_155.here hx rfl (pc0 := 164) (pc' := 191) rfl (hb hby d2_164) rfl (Jvm.Free.XT.ii_le_t hc164) (by decide) (by decide)) ?_
                              show own_Goes p.tables e below (T_155.setTop (mkF m 191 #[.val (.int p0)] [])) _
                              have hv : (own_f2_155 p0) = (own_f2_191) := by exact ((if_neg hc158)).trans (if_neg hc164)
                              rw [hv]
                              exact J191 T_155 X_155 e_155
                        by_cases hc146 : p0 < (12289 : Int32)
                        · refine own_step (fun _ => XS.icmpYes X_142.here hx rfl (pc0 := 146) (pc' := 155) rfl (hb hby d2_146) rfl (Jvm.Free.XT.ii_lt_t hc146) (by decide) (by decide)) ?_
                          show own_Goes p.tables e below (T_142.setTop (mkF m 155 #[.val (.int p0)] [])) _
                          have hv : (own_f2_142 p0) = (own_f2_155 p0) := by exact (if_pos hc146)
                          rw [hv]
                          exact J155 T_142 X_142 e_142
                        · refine own_step (fun _ => XS.icmpNo X_142.here hx rfl (hb hby d2_146) rfl (Jvm.Free.XT.ii_lt_f hc146)) ?_
                          show own_Goes p.tables e below (T_142.setTop (mkF m 149 #[.val (.int p0)] [])) _
                          refine own_step (fun _ => XS.iloadN X_142.here hx rfl (hb hby d2_149) rfl) ?_
                          show own_Goes p.tables e below (T_142.setTop (mkF m 150 #[.val (.int p0)] [(.int p0)])) _
                          refine own_step (X_142.ldcInt hx hown (mvT hZ (hw _ (List.mem_of_getElem? (i := 28) rfl))) (g := (mkF m 150 #[.val (.int p0)] [(.int p0)])) rfl (hb hby d2_150)) ?_
                          show own_Goes p.tables e below (T_142.setTop (mkF m 152 #[.val (.int p0)] [(.int (55295 : Int32)), (.int p0)])) _
                          by_cases hc152 : (55295 : Int32) < p0
                          · refine own_step (fun _ => XS.icmpNo X_142.here hx rfl (hb hby d2_152) rfl (Jvm.Free.XT.ii_le_f hc152)) ?_
                            show own_Goes p.tables e below (T_142.setTop (mkF m 155 #[.val (.int p0)] [])) _
                            have hv : (own_f2_142 p0) = (own_f2_155 p0) := by exact ((if_neg hc146)).trans (if_pos hc152)
                            rw [hv]
                            exact J155 T_142 X_142 e_142
                          · refine own_step (fun _ => XS.icmpYes X_142.here hx rfl (pc0 := 152) (pc' := 191) rfl (hb hby d2_152) rfl (Jvm.Free.XT.ii_le_t hc152) (by decide) (by decide)) ?_
                            show own_Goes p.tables e below (T_142.setTop (mkF m 191 #[.val (.int p0)] [])) _
                            have hv : (own_f2_142 p0) = (own_f2_191) := by exact ((if_neg hc146)).trans (if_neg hc152)
                            rw [hv]
                            exact J191 T_142 X_142 e_142
                      by_cases hc132 : p0 < (11264 : Int32)
                      · refine own_step (fun _ => XS.icmpYes X_128.here hx rfl (pc0 := 132) (pc' := 142) rfl (hb hby d2_132) rfl (Jvm.Free.XT.ii_lt_t hc132) (by decide) (by decide)) ?_
                        show own_Goes p.tables e below (T_128.setTop (mkF m 142 #[.val (.int p0)] [])) _
                        have hv : (own_f2_128 p0) = (own_f2_142 p0) := by exact (if_pos hc132)
                        rw [hv]
                        exact J142 T_128 X_128 e_128
                      · refine own_step (fun _ => XS.icmpNo X_128.here hx rfl (hb hby d2_132) rfl (Jvm.Free.XT.ii_lt_f hc132)) ?_
                        show own_Goes p.tables e below (T_128.setTop (mkF m 135 #[.val (.int p0)] [])) _
                        refine own_step (fun _ => XS.iloadN X_128.here hx rfl (hb hby d2_135) rfl) ?_
                        show own_Goes p.tables e below (T_128.setTop (mkF m 136 #[.val (.int p0)] [(.int p0)])) _
                        refine own_step (fun _ => XS.sipush X_128.here hx rfl (hb hby d2_136)) ?_
                        show own_Goes p.tables e below (T_128.setTop (mkF m 139 #[.val (.int p0)] [(.int (12271 : Int32)), (.int p0)])) _
                        by_cases hc139 : (12271 : Int32) < p0
                        · refine own_step (fun _ => XS.icmpNo X_128.here hx rfl (hb hby d2_139) rfl (Jvm.Free.XT.ii_le_f hc139)) ?_
                          show own_Goes p.tables e below (T_128.setTop (mkF m 142 #[.val (.int p0)] [])) _
                          have hv : (own_f2_128 p0) = (own_f2_142 p0) := by exact ((if_neg hc132)).trans (if_pos hc139)
                          rw [hv]
                          exact J142 T_128 X_128 e_128
                        · refine own_step (fun _ => XS.icmpYes X_128.here hx rfl (pc0 := 139) (pc' := 191) rfl (hb hby d2_139) rfl (Jvm.Free.XT.ii_le_t hc139) (by decide) (by decide)) ?_
                          show own_Goes p.tables e below (T_128.setTop (mkF m 191 #[.val (.int p0)] [])) _
                          have hv : (own_f2_128 p0) = (own_f2_191) := by exact ((if_neg hc132)).trans (if_neg hc139)
                          rw [hv]
                          exact J191 T_128 X_128 e_128
                    by_cases hc118 : p0 < (8304 : Int32)
                    · refine own_step (fun _ => XS.icmpYes X_114.here hx rfl (pc0 := 118) (pc' := 128) rfl (hb hby d2_118) rfl (Jvm.Free.XT.ii_lt_t hc118) (by decide) (by decide)) ?_
                      show own_Goes p.tables e below (T_114.setTop (mkF m 128 #[.val (.int p0)] [])) _
                      have hv : (own_f2_114 p0) = (own_f2_128 p0) := by exact (if_pos hc118)
                      rw [hv]
                      exact J128 T_114 X_114 e_114
                    · refine own_step (fun _ => XS.icmpNo X_114.here hx rfl (hb hby d2_118) rfl (Jvm.Free.XT.ii_lt_f hc118)) ?_
                      show own_Goes p.tables e below (T_114.setTop (mkF m 121 #[.val (.int p0)] [])) _
                      refine own_step (fun _ => XS.iloadN X_114.here hx rfl (hb hby d2_121) rfl) ?_
                      show own_Goes p.tables e below (T_114.setTop (mkF m 122 #[.val (.int p0)] [(.int p0)])) _
                      refine own_step (fun _ => XS.sipush X_114.here hx rfl (hb hby d2_122)) ?_
                      show own_Goes p.tables e below (T_114.setTop (mkF m 125 #[.val (.int p0)] [(.int (8591 : Int32)), (.int p0)])) _
                      by_cases hc125 : (8591 : Int32) < p0
                      · refine own_step (fun _ => XS.icmpNo X_114.here hx rfl (hb hby d2_125) rfl (Jvm.Free.XT.ii_le_f hc125)) ?_
                        show own_Goes p.tables e below (T_114.setTop (mkF m 128 #[.val (.int p0)] [])) _
                        have hv : (own_f2_114 p0) = (own_f2_128 p0) := by exact ((if_neg hc118)).trans (if_pos hc125)
                        rw [hv]
                        exact J128 T_114 X_114 e_114
                      · refine own_step (fun _ => XS.icmpYes X_114.here hx rfl (pc0 := 125) (pc' := 191) rfl (hb hby d2_125) rfl (Jvm.Free.XT.ii_le_t hc125) (by decide) (by decide)) ?_
                        show own_Goes p.tables e below (T_114.setTop (mkF m 191 #[.val (.int p0)] [])) _
                        have hv : (own_f2_114 p0) = (own_f2_191) := by exact ((if_neg hc118)).trans (if_neg hc125)
                        rw [hv]
                        exact J191 T_114 X_114 e_114
                  by_cases hc104 : p0 < (8204 : Int32)
                  · refine own_step (fun _ => XS.icmpYes X_100.here hx rfl (pc0 := 104) (pc' := 114) rfl (hb hby d2_104) rfl (Jvm.Free.XT.ii_lt_t hc104) (by decide) (by decide)) ?_
                    show own_Goes p.tables e below (T_100.setTop (mkF m 114 #[.val (.int p0)] [])) _
                    have hv : (own_f2_100 p0) = (own_f2_114 p0) := by exact (if_pos hc104)
                    rw [hv]
                    exact J114 T_100 X_100 e_100
                  · refine own_step (fun _ => XS.icmpNo X_100.here hx rfl (hb hby d2_104) rfl (Jvm.Free.XT.ii_lt_f hc104)) ?_
                    show own_Goes p.tables e below (T_100.setTop (mkF m 107 #[.val (.int p0)] [])) _
                    refine own_step (fun _ => XS.iloadN X_100.here hx rfl (hb hby d2_107) rfl) ?_
                    show own_Goes p.tables e below (T_100.setTop (mkF m 108 #[.val (.int p0)] [(.int p0)])) _
                    refine own_step (fun _ => XS.sipush X_100.here hx rfl (hb hby d2_108)) ?_
                    show own_Goes p.tables e below (T_100.setTop (mkF m 111 #[.val (.int p0)] [(.int (8205 : Int32)), (.int p0)])) _
                    by_cases hc111 : (8205 : Int32) < p0
                    · refine own_step (fun _ => XS.icmpNo X_100.here hx rfl (hb hby d2_111) rfl (Jvm.Free.XT.ii_le_f hc111)) ?_
                      show own_Goes p.tables e below (T_100.setTop (mkF m 114 #[.val (.int p0)] [])) _
                      have hv : (own_f2_100 p0) = (own_f2_114 p0) := by exact ((if_neg hc104)).trans (if_pos hc111)
                      rw [hv]
                      exact J114 T_100 X_100 e_100
                    · refine own_step (fun _ => XS.icmpYes X_100.here hx rfl (pc0 := 111) (pc' := 191) rfl (hb hby d2_111) rfl (Jvm.Free.XT.ii_le_t hc111) (by decide) (by decide)) ?_
                      show own_Goes p.tables e below (T_100.setTop (mkF m 191 #[.val (.int p0)] [])) _
                      have hv : (own_f2_100 p0) = (own_f2_191) := by exact ((if_neg hc104)).trans (if_neg hc111)
                      rw [hv]
                      exact J191 T_100 X_100 e_100
                by_cases hc90 : p0 < (895 : Int32)
                · refine own_step (fun _ => XS.icmpYes X_86.here hx rfl (pc0 := 90) (pc' := 100) rfl (hb hby d2_90) rfl (Jvm.Free.XT.ii_lt_t hc90) (by decide) (by decide)) ?_
                  show own_Goes p.tables e below (T_86.setTop (mkF m 100 #[.val (.int p0)] [])) _
                  have hv : (own_f2_86 p0) = (own_f2_100 p0) := by exact (if_pos hc90)
                  rw [hv]
                  exact J100 T_86 X_86 e_86
                · refine own_step (fun _ => XS.icmpNo X_86.here hx rfl (hb hby d2_90) rfl (Jvm.Free.XT.ii_lt_f hc90)) ?_
                  show own_Goes p.tables e below (T_86.setTop (mkF m 93 #[.val (.int p0)] [])) _
                  refine own_step (fun _ => XS.iloadN X_86.here hx rfl (hb hby d2_93) rfl) ?_
                  show own_Goes p.tables e below (T_86.setTop (mkF m 94 #[.val (.int p0)] [(.int p0)])) _
                  refine own_step (fun _ => XS.sipush X_86.here hx rfl (hb hby d2_94)) ?_
                  show own_Goes p.tables e below (T_86.setTop (mkF m 97 #[.val (.int p0)] [(.int (8191 : Int32)), (.int p0)])) _
                  by_cases hc97 : (8191 : Int32) < p0
                  · refine own_step (fun _ => XS.icmpNo X_86.here hx rfl (hb hby d2_97) rfl (Jvm.Free.XT.ii_le_f hc97)) ?_
                    show own_Goes p.tables e below (T_86.setTop (mkF m 100 #[.val (.int p0)] [])) _
                    have hv : (own_f2_86 p0) = (own_f2_100 p0) := by exact ((if_neg hc90)).trans (if_pos hc97)
                    rw [hv]
                    exact J100 T_86 X_86 e_86
                  · refine own_step (fun _ => XS.icmpYes X_86.here hx rfl (pc0 := 97) (pc' := 191) rfl (hb hby d2_97) rfl (Jvm.Free.XT.ii_le_t hc97) (by decide) (by decide)) ?_
                    show own_Goes p.tables e below (T_86.setTop (mkF m 191 #[.val (.int p0)] [])) _
                    have hv : (own_f2_86 p0) = (own_f2_191) := by exact ((if_neg hc90)).trans (if_neg hc97)
                    rw [hv]
                    exact J191 T_86 X_86 e_86
              by_cases hc76 : p0 < (880 : Int32)
              · refine own_step (fun _ => XS.icmpYes X_72.here hx rfl (pc0 := 76) (pc' := 86) rfl (hb hby d2_76) rfl (Jvm.Free.XT.ii_lt_t hc76) (by decide) (by decide)) ?_
                show own_Goes p.tables e below (T_72.setTop (mkF m 86 #[.val (.int p0)] [])) _
                have hv : (own_f2_72 p0) = (own_f2_86 p0) := by exact (if_pos hc76)
                rw [hv]
                exact J86 T_72 X_72 e_72
              · refine own_step (fun _ => XS.icmpNo X_72.here hx rfl (hb hby d2_76) rfl (Jvm.Free.XT.ii_lt_f hc76)) ?_
                show own_Goes p.tables e below (T_72.setTop (mkF m 79 #[.val (.int p0)] [])) _
                refine own_step (fun _ => XS.iloadN X_72.here hx rfl (hb hby d2_79) rfl) ?_
                show own_Goes p.tables e below (T_72.setTop (mkF m 80 #[.val (.int p0)] [(.int p0)])) _
                refine own_step (fun _ => XS.sipush X_72.here hx rfl (hb hby d2_80)) ?_
                show own_Goes p.tables e below (T_72.setTop (mkF m 83 #[.val (.int p0)] [(.int (893 : Int32)), (.int p0)])) _
                by_cases hc83 : (893 : Int32) < p0
                · refine own_step (fun _ => XS.icmpNo X_72.here hx rfl (hb hby d2_83) rfl (Jvm.Free.XT.ii_le_f hc83)) ?_
                  show own_Goes p.tables e below (T_72.setTop (mkF m 86 #[.val (.int p0)] [])) _
                  have hv : (own_f2_72 p0) = (own_f2_86 p0) := by exact ((if_neg hc76)).trans (if_pos hc83)
                  rw [hv]
                  exact J86 T_72 X_72 e_72
                · refine own_step (fun _ => XS.icmpYes X_72.here hx rfl (pc0 := 83) (pc' := 191) rfl (hb hby d2_83) rfl (Jvm.Free.XT.ii_le_t hc83) (by decide) (by decide)) ?_
                  show own_Goes p.tables e below (T_72.setTop (mkF m 191 #[.val (.int p0)] [])) _
                  have hv : (own_f2_72 p0) = (own_f2_191) := by exact ((if_neg hc76)).trans (if_neg hc83)
                  rw [hv]
                  exact J191 T_72 X_72 e_72
            by_cases hc62 : p0 < (248 : Int32)
            · refine own_step (fun _ => XS.icmpYes X_58.here hx rfl (pc0 := 62) (pc' := 72) rfl (hb hby d2_62) rfl (Jvm.Free.XT.ii_lt_t hc62) (by decide) (by decide)) ?_
              show own_Goes p.tables e below (T_58.setTop (mkF m 72 #[.val (.int p0)] [])) _
              have hv : (own_f2_58 p0) = (own_f2_72 p0) := by exact (if_pos hc62)
              rw [hv]
              exact J72 T_58 X_58 e_58
            · refine own_step (fun _ => XS.icmpNo X_58.here hx rfl (hb hby d2_62) rfl (Jvm.Free.XT.ii_lt_f hc62)) ?_
              show own_Goes p.tables e below (T_58.setTop (mkF m 65 #[.val (.int p0)] [])) _
              refine own_step (fun _ => XS.iloadN X_58.here hx rfl (hb hby d2_65) rfl) ?_
              show own_Goes p.tables e below (T_58.setTop (mkF m 66 #[.val (.int p0)] [(.int p0)])) _
              refine own_step (fun _ => XS.sipush X_58.here hx rfl (hb hby d2_66)) ?_
              show own_Goes p.tables e below (T_58.setTop (mkF m 69 #[.val (.int p0)] [(.int (767 : Int32)), (.int p0)])) _
              by_cases hc69 : (767 : Int32) < p0
              · refine own_step (fun _ => XS.icmpNo X_58.here hx rfl (hb hby d2_69) rfl (Jvm.Free.XT.ii_le_f hc69)) ?_
                show own_Goes p.tables e below (T_58.setTop (mkF m 72 #[.val (.int p0)] [])) _
                have hv : (own_f2_58 p0) = (own_f2_72 p0) := by exact ((if_neg hc62)).trans (if_pos hc69)
                rw [hv]
                exact J72 T_58 X_58 e_58
              · refine own_step (fun _ => XS.icmpYes X_58.here hx rfl (pc0 := 69) (pc' := 191) rfl (hb hby d2_69) rfl (Jvm.Free.XT.ii_le_t hc69) (by decide) (by decide)) ?_
                show own_Goes p.tables e below (T_58.setTop (mkF m 191 #[.val (.int p0)] [])) _
                have hv : (own_f2_58 p0) = (own_f2_191) := by exact ((if_neg hc62)).trans (if_neg hc69)
                rw [hv]
                exact J191 T_58 X_58 e_58
          by_cases hc48 : p0 < (216 : Int32)
          · refine own_step (fun _ => XS.icmpYes X_44.here hx rfl (pc0 := 48) (pc' := 58) rfl (hb hby d2_48) rfl (Jvm.Free.XT.ii_lt_t hc48) (by decide) (by decide)) ?_
            show own_Goes p.tables e below (T_44.setTop (mkF m 58 #[.val (.int p0)] [])) _
            have hv : (own_f2_44 p0) = (own_f2_58 p0) := by exact (if_pos hc48)
            rw [hv]
            exact J58 T_44 X_44 e_44
          · refine own_step (fun _ => XS.icmpNo X_44.here hx rfl (hb hby d2_48) rfl (Jvm.Free.XT.ii_lt_f hc48)) ?_
            show own_Goes p.tables e below (T_44.setTop (mkF m 51 #[.val (.int p0)] [])) _
            refine own_step (fun _ => XS.iloadN X_44.here hx rfl (hb hby d2_51) rfl) ?_
            show own_Goes p.tables e below (T_44.setTop (mkF m 52 #[.val (.int p0)] [(.int p0)])) _
            refine own_step (fun _ => XS.sipush X_44.here hx rfl (hb hby d2_52)) ?_
            show own_Goes p.tables e below (T_44.setTop (mkF m 55 #[.val (.int p0)] [(.int (246 : Int32)), (.int p0)])) _
            by_cases hc55 : (246 : Int32) < p0
            · refine own_step (fun _ => XS.icmpNo X_44.here hx rfl (hb hby d2_55) rfl (Jvm.Free.XT.ii_le_f hc55)) ?_
              show own_Goes p.tables e below (T_44.setTop (mkF m 58 #[.val (.int p0)] [])) _
              have hv : (own_f2_44 p0) = (own_f2_58 p0) := by exact ((if_neg hc48)).trans (if_pos hc55)
              rw [hv]
              exact J58 T_44 X_44 e_44
            · refine own_step (fun _ => XS.icmpYes X_44.here hx rfl (pc0 := 55) (pc' := 191) rfl (hb hby d2_55) rfl (Jvm.Free.XT.ii_le_t hc55) (by decide) (by decide)) ?_
              show own_Goes p.tables e below (T_44.setTop (mkF m 191 #[.val (.int p0)] [])) _
              have hv : (own_f2_44 p0) = (own_f2_191) := by exact ((if_neg hc48)).trans (if_neg hc55)
              rw [hv]
              exact J191 T_44 X_44 e_44
        by_cases hc34 : p0 < (192 : Int32)
        · refine own_step (fun _ => XS.icmpYes X_24.here hx rfl (pc0 := 34) (pc' := 44) rfl (hb hby d2_34) rfl (Jvm.Free.XT.ii_lt_t hc34) (by decide) (by decide)) ?_
          show own_Goes p.tables e below (T_24.setTop (mkF m 44 #[.val (.int p0)] [])) _
          have hv : (own_f2_24 p0) = (own_f2_44 p0) := by exact ((if_neg hc27)).trans (if_pos hc34)
          rw [hv]
          exact J44 T_24 X_24 e_24
        · refine own_step (fun _ => XS.icmpNo X_24.here hx rfl (hb hby d2_34) rfl (Jvm.Free.XT.ii_lt_f hc34)) ?_
          show own_Goes p.tables e below (T_24.setTop (mkF m 37 #[.val (.int p0)] [])) _
          refine own_step (fun _ => XS.iloadN X_24.here hx rfl (hb hby d2_37) rfl) ?_
          show own_Goes p.tables e below (T_24.setTop (mkF m 38 #[.val (.int p0)] [(.int p0)])) _
          refine own_step (fun _ => XS.sipush X_24.here hx rfl (hb hby d2_38)) ?_
          show own_Goes p.tables e below (T_24.setTop (mkF m 41 #[.val (.int p0)] [(.int (214 : Int32)), (.int p0)])) _
          by_cases hc41 : (214 : Int32) < p0
          · refine own_step (fun _ => XS.icmpNo X_24.here hx rfl (hb hby d2_41) rfl (Jvm.Free.XT.ii_le_f hc41)) ?_
            show own_Goes p.tables e below (T_24.setTop (mkF m 44 #[.val (.int p0)] [])) _
            have hv : (own_f2_24 p0) = (own_f2_44 p0) := by exact (((if_neg hc27)).trans (if_neg hc34)).trans (if_pos hc41)
            rw [hv]
            exact J44 T_24 X_24 e_24
          · refine own_step (fun _ => XS.icmpYes X_24.here hx rfl (pc0 := 41) (pc' := 191) rfl (hb hby d2_41) rfl (Jvm.Free.XT.ii_le_t hc41) (by decide) (by decide)) ?_
            show own_Goes p.tables e below (T_24.setTop (mkF m 191 #[.val (.int p0)] [])) _
            have hv : (own_f2_24 p0) = (own_f2_191) := by exact (((if_neg hc27)).trans (if_neg hc34)).trans (if_neg hc41)
            rw [hv]
            exact J191 T_24 X_24 e_24
    by_cases hc15 : p0 < (65 : Int32)
    · refine own_step (fun _ => XS.icmpYes X_12.here hx rfl (pc0 := 15) (pc' := 24) rfl (hb hby d2_15) rfl (Jvm.Free.XT.ii_lt_t hc15) (by decide) (by decide)) ?_
      show own_Goes p.tables e below (T_12.setTop (mkF m 24 #[.val (.int p0)] [])) _
      have hv : (own_f2_12 p0) = (own_f2_24 p0) := by exact (if_pos hc15)
      rw [hv]
      exact J24 T_12 X_12 e_12
    · refine own_step (fun _ => XS.icmpNo X_12.here hx rfl (hb hby d2_15) rfl (Jvm.Free.XT.ii_lt_f hc15)) ?_
      show own_Goes p.tables e below (T_12.setTop (mkF m 18 #[.val (.int p0)] [])) _
      refine own_step (fun _ => XS.iloadN X_12.here hx rfl (hb hby d2_18) rfl) ?_
      show own_Goes p.tables e below (T_12.setTop (mkF m 19 #[.val (.int p0)] [(.int p0)])) _
      refine own_step (fun _ => XS.bipush X_12.here hx rfl (hb hby d2_19)) ?_
      show own_Goes p.tables e below (T_12.setTop (mkF m 21 #[.val (.int p0)] [(.int (90 : Int32)), (.int p0)])) _
      by_cases hc21 : (90 : Int32) < p0
      · refine own_step (fun _ => XS.icmpNo X_12.here hx rfl (hb hby d2_21) rfl (Jvm.Free.XT.ii_le_f hc21)) ?_
        show own_Goes p.tables e below (T_12.setTop (mkF m 24 #[.val (.int p0)] [])) _
        have hv : (own_f2_12 p0) = (own_f2_24 p0) := by exact ((if_neg hc15)).trans (if_pos hc21)
        rw [hv]
        exact J24 T_12 X_12 e_12
      · refine own_step (fun _ => XS.icmpYes X_12.here hx rfl (pc0 := 21) (pc' := 191) rfl (hb hby d2_21) rfl (Jvm.Free.XT.ii_le_t hc21) (by decide) (by decide)) ?_
        show own_Goes p.tables e below (T_12.setTop (mkF m 191 #[.val (.int p0)] [])) _
        have hv : (own_f2_12 p0) = (own_f2_191) := by exact ((if_neg hc15)).trans (if_neg hc21)
        rw [hv]
        exact J191 T_12 X_12 e_12
  by_cases hc3 : p0 < (97 : Int32)
  · refine own_step (fun _ => XS.icmpYes X0.here hx rfl (pc0 := 3) (pc' := 12) rfl (hb hby d2_3) rfl (Jvm.Free.XT.ii_lt_t hc3) (by decide) (by decide)) ?_
    show own_Goes p.tables e below (s₁.setTop (mkF m 12 #[.val (.int p0)] [])) _
    have hv : (own_f2 p0) = (own_f2_12 p0) := by exact (if_pos hc3)
    rw [hv]
    exact J12 s₁ X0 e0
  · refine own_step (fun _ => XS.icmpNo X0.here hx rfl (hb hby d2_3) rfl (Jvm.Free.XT.ii_lt_f hc3)) ?_
    show own_Goes p.tables e below (s₁.setTop (mkF m 6 #[.val (.int p0)] [])) _
    refine own_step (fun _ => XS.iloadN X0.here hx rfl (hb hby d2_6) rfl) ?_
    show own_Goes p.tables e below (s₁.setTop (mkF m 7 #[.val (.int p0)] [(.int p0)])) _
    refine own_step (fun _ => XS.bipush X0.here hx rfl (hb hby d2_7)) ?_
    show own_Goes p.tables e below (s₁.setTop (mkF m 9 #[.val (.int p0)] [(.int (122 : Int32)), (.int p0)])) _
    by_cases hc9 : (122 : Int32) < p0
    · refine own_step (fun _ => XS.icmpNo X0.here hx rfl (hb hby d2_9) rfl (Jvm.Free.XT.ii_le_f hc9)) ?_
      show own_Goes p.tables e below (s₁.setTop (mkF m 12 #[.val (.int p0)] [])) _
      have hv : (own_f2 p0) = (own_f2_12 p0) := by exact ((if_neg hc3)).trans (if_pos hc9)
      rw [hv]
      exact J12 s₁ X0 e0
    · refine own_step (fun _ => XS.icmpYes X0.here hx rfl (pc0 := 9) (pc' := 191) rfl (hb hby d2_9) rfl (Jvm.Free.XT.ii_le_t hc9) (by decide) (by decide)) ?_
      show own_Goes p.tables e below (s₁.setTop (mkF m 191 #[.val (.int p0)] [])) _
      have hv : (own_f2 p0) = (own_f2_191) := by exact ((if_neg hc3)).trans (if_neg hc9)
      rw [hv]
      exact J191 s₁ X0 e0
theorem d3_0 : decode method_2_code 0 = .ok (.iload_n 0, 1) := by decide +kernel
theorem d3_1 : decode method_2_code 1 = .ok (.bipush 65, 2) := by decide +kernel
theorem d3_3 : decode method_2_code 3 = .ok (.if_icmp .lt 9, 3) := by decide +kernel
theorem d3_6 : decode method_2_code 6 = .ok (.iload_n 0, 1) := by decide +kernel
theorem d3_7 : decode method_2_code 7 = .ok (.ldc 7, 2) := by decide +kernel
theorem d3_9 : decode method_2_code 9 = .ok (.if_icmp .le 5, 3) := by decide +kernel
theorem d3_12 : decode method_2_code 12 = .ok (.iconst 1, 1) := by decide +kernel
theorem d3_13 : decode method_2_code 13 = .ok (.ireturn, 1) := by decide +kernel
theorem d3_14 : decode method_2_code 14 = .ok (.iload_n 0, 1) := by decide +kernel
theorem d3_15 : decode method_2_code 15 = .ok (.bipush 91, 2) := by decide +kernel
theorem d3_17 : decode method_2_code 17 = .ok (.if_icmp .lt 11, 3) := by decide +kernel
theorem d3_20 : decode method_2_code 20 = .ok (.iload_n 0, 1) := by decide +kernel
theorem d3_21 : decode method_2_code 21 = .ok (.bipush 94, 2) := by decide +kernel
theorem d3_23 : decode method_2_code 23 = .ok (.if_icmp .gt 5, 3) := by decide +kernel
theorem d3_26 : decode method_2_code 26 = .ok (.iconst 1, 1) := by decide +kernel
theorem d3_27 : decode method_2_code 27 = .ok (.ireturn, 1) := by decide +kernel
theorem d3_28 : decode method_2_code 28 = .ok (.iload_n 0, 1) := by decide +kernel
theorem d3_29 : decode method_2_code 29 = .ok (.bipush 96, 2) := by decide +kernel
theorem d3_31 : decode method_2_code 31 = .ok (.if_icmp .ne 5, 3) := by decide +kernel
theorem d3_34 : decode method_2_code 34 = .ok (.iconst 1, 1) := by decide +kernel
theorem d3_35 : decode method_2_code 35 = .ok (.ireturn, 1) := by decide +kernel
theorem d3_36 : decode method_2_code 36 = .ok (.iload_n 0, 1) := by decide +kernel
theorem d3_37 : decode method_2_code 37 = .ok (.bipush 123, 2) := by decide +kernel
theorem d3_39 : decode method_2_code 39 = .ok (.if_icmp .lt 12, 3) := by decide +kernel
theorem d3_42 : decode method_2_code 42 = .ok (.iload_n 0, 1) := by decide +kernel
theorem d3_43 : decode method_2_code 43 = .ok (.sipush 191, 3) := by decide +kernel
theorem d3_46 : decode method_2_code 46 = .ok (.if_icmp .gt 5, 3) := by decide +kernel
theorem d3_49 : decode method_2_code 49 = .ok (.iconst 1, 1) := by decide +kernel
theorem d3_50 : decode method_2_code 50 = .ok (.ireturn, 1) := by decide +kernel
theorem d3_51 : decode method_2_code 51 = .ok (.iload_n 0, 1) := by decide +kernel
theorem d3_52 : decode method_2_code 52 = .ok (.sipush 215, 3) := by decide +kernel
theorem d3_55 : decode method_2_code 55 = .ok (.if_icmp .eq 10, 3) := by decide +kernel
theorem d3_58 : decode method_2_code 58 = .ok (.iload_n 0, 1) := by decide +kernel
theorem d3_59 : decode method_2_code 59 = .ok (.sipush 247, 3) := by decide +kernel
theorem d3_62 : decode method_2_code 62 = .ok (.if_icmp .ne 5, 3) := by decide +kernel
theorem d3_65 : decode method_2_code 65 = .ok (.iconst 1, 1) := by decide +kernel
theorem d3_66 : decode method_2_code 66 = .ok (.ireturn, 1) := by decide +kernel
theorem d3_67 : decode method_2_code 67 = .ok (.iload_n 0, 1) := by decide +kernel
theorem d3_68 : decode method_2_code 68 = .ok (.sipush 768, 3) := by decide +kernel
theorem d3_71 : decode method_2_code 71 = .ok (.if_icmp .lt 12, 3) := by decide +kernel
theorem d3_74 : decode method_2_code 74 = .ok (.iload_n 0, 1) := by decide +kernel
theorem d3_75 : decode method_2_code 75 = .ok (.sipush 879, 3) := by decide +kernel
theorem d3_78 : decode method_2_code 78 = .ok (.if_icmp .gt 5, 3) := by decide +kernel
theorem d3_81 : decode method_2_code 81 = .ok (.iconst 1, 1) := by decide +kernel
theorem d3_82 : decode method_2_code 82 = .ok (.ireturn, 1) := by decide +kernel
theorem d3_83 : decode method_2_code 83 = .ok (.iload_n 0, 1) := by decide +kernel
theorem d3_84 : decode method_2_code 84 = .ok (.sipush 894, 3) := by decide +kernel
theorem d3_87 : decode method_2_code 87 = .ok (.if_icmp .ne 5, 3) := by decide +kernel
theorem d3_90 : decode method_2_code 90 = .ok (.iconst 1, 1) := by decide +kernel
theorem d3_91 : decode method_2_code 91 = .ok (.ireturn, 1) := by decide +kernel
theorem d3_92 : decode method_2_code 92 = .ok (.iload_n 0, 1) := by decide +kernel
theorem d3_93 : decode method_2_code 93 = .ok (.sipush 8192, 3) := by decide +kernel
theorem d3_96 : decode method_2_code 96 = .ok (.if_icmp .lt 12, 3) := by decide +kernel
theorem d3_99 : decode method_2_code 99 = .ok (.iload_n 0, 1) := by decide +kernel
theorem d3_100 : decode method_2_code 100 = .ok (.sipush 8203, 3) := by decide +kernel
theorem d3_103 : decode method_2_code 103 = .ok (.if_icmp .gt 5, 3) := by decide +kernel
theorem d3_106 : decode method_2_code 106 = .ok (.iconst 1, 1) := by decide +kernel
theorem d3_107 : decode method_2_code 107 = .ok (.ireturn, 1) := by decide +kernel
theorem d3_108 : decode method_2_code 108 = .ok (.iload_n 0, 1) := by decide +kernel
theorem d3_109 : decode method_2_code 109 = .ok (.sipush 8206, 3) := by decide +kernel
theorem d3_112 : decode method_2_code 112 = .ok (.if_icmp .lt 12, 3) := by decide +kernel
theorem d3_115 : decode method_2_code 115 = .ok (.iload_n 0, 1) := by decide +kernel
theorem d3_116 : decode method_2_code 116 = .ok (.sipush 8303, 3) := by decide +kernel
theorem d3_119 : decode method_2_code 119 = .ok (.if_icmp .gt 5, 3) := by decide +kernel
theorem d3_122 : decode method_2_code 122 = .ok (.iconst 1, 1) := by decide +kernel
theorem d3_123 : decode method_2_code 123 = .ok (.ireturn, 1) := by decide +kernel
theorem d3_124 : decode method_2_code 124 = .ok (.iload_n 0, 1) := by decide +kernel
theorem d3_125 : decode method_2_code 125 = .ok (.sipush 8592, 3) := by decide +kernel
theorem d3_128 : decode method_2_code 128 = .ok (.if_icmp .lt 12, 3) := by decide +kernel
theorem d3_131 : decode method_2_code 131 = .ok (.iload_n 0, 1) := by decide +kernel
theorem d3_132 : decode method_2_code 132 = .ok (.sipush 11263, 3) := by decide +kernel
theorem d3_135 : decode method_2_code 135 = .ok (.if_icmp .gt 5, 3) := by decide +kernel
theorem d3_138 : decode method_2_code 138 = .ok (.iconst 1, 1) := by decide +kernel
theorem d3_139 : decode method_2_code 139 = .ok (.ireturn, 1) := by decide +kernel
theorem d3_140 : decode method_2_code 140 = .ok (.iload_n 0, 1) := by decide +kernel
theorem d3_141 : decode method_2_code 141 = .ok (.sipush 12272, 3) := by decide +kernel
theorem d3_144 : decode method_2_code 144 = .ok (.if_icmp .lt 12, 3) := by decide +kernel
theorem d3_147 : decode method_2_code 147 = .ok (.iload_n 0, 1) := by decide +kernel
theorem d3_148 : decode method_2_code 148 = .ok (.sipush 12288, 3) := by decide +kernel
theorem d3_151 : decode method_2_code 151 = .ok (.if_icmp .gt 5, 3) := by decide +kernel
theorem d3_154 : decode method_2_code 154 = .ok (.iconst 1, 1) := by decide +kernel
theorem d3_155 : decode method_2_code 155 = .ok (.ireturn, 1) := by decide +kernel
theorem d3_156 : decode method_2_code 156 = .ok (.iload_n 0, 1) := by decide +kernel
theorem d3_157 : decode method_2_code 157 = .ok (.ldc 8, 2) := by decide +kernel
theorem d3_159 : decode method_2_code 159 = .ok (.if_icmp .lt 11, 3) := by decide +kernel
theorem d3_162 : decode method_2_code 162 = .ok (.iload_n 0, 1) := by decide +kernel
theorem d3_163 : decode method_2_code 163 = .ok (.ldc 9, 2) := by decide +kernel
theorem d3_165 : decode method_2_code 165 = .ok (.if_icmp .gt 5, 3) := by decide +kernel
theorem d3_168 : decode method_2_code 168 = .ok (.iconst 1, 1) := by decide +kernel
theorem d3_169 : decode method_2_code 169 = .ok (.ireturn, 1) := by decide +kernel
theorem d3_170 : decode method_2_code 170 = .ok (.iload_n 0, 1) := by decide +kernel
theorem d3_171 : decode method_2_code 171 = .ok (.ldc 10, 2) := by decide +kernel
theorem d3_173 : decode method_2_code 173 = .ok (.if_icmp .lt 11, 3) := by decide +kernel
theorem d3_176 : decode method_2_code 176 = .ok (.iload_n 0, 1) := by decide +kernel
theorem d3_177 : decode method_2_code 177 = .ok (.ldc 11, 2) := by decide +kernel
theorem d3_179 : decode method_2_code 179 = .ok (.if_icmp .gt 5, 3) := by decide +kernel
theorem d3_182 : decode method_2_code 182 = .ok (.iconst 1, 1) := by decide +kernel
theorem d3_183 : decode method_2_code 183 = .ok (.ireturn, 1) := by decide +kernel
theorem d3_184 : decode method_2_code 184 = .ok (.iload_n 0, 1) := by decide +kernel
theorem d3_185 : decode method_2_code 185 = .ok (.ldc 12, 2) := by decide +kernel
theorem d3_187 : decode method_2_code 187 = .ok (.if_icmp .lt 11, 3) := by decide +kernel
theorem d3_190 : decode method_2_code 190 = .ok (.iload_n 0, 1) := by decide +kernel
theorem d3_191 : decode method_2_code 191 = .ok (.ldc 13, 2) := by decide +kernel
theorem d3_193 : decode method_2_code 193 = .ok (.if_icmp .gt 5, 3) := by decide +kernel
theorem d3_196 : decode method_2_code 196 = .ok (.iconst 1, 1) := by decide +kernel
theorem d3_197 : decode method_2_code 197 = .ok (.ireturn, 1) := by decide +kernel
theorem d3_198 : decode method_2_code 198 = .ok (.iconst 0, 1) := by decide +kernel
theorem d3_199 : decode method_2_code 199 = .ok (.ireturn, 1) := by decide +kernel
theorem pn_3 : plainName "com/example/unnest/unnest/xml/XmlCharsIsNameStartPinLaw" = true := by first | (simp [plainName, overriddenIn]; done) | decide +kernel
theorem ef_3 (m : MethodId) (p0 : Int32) : entryFrame m #[(.int p0)] 1 = mkF m 0 #[.val (.int p0)] [] := by first | (simp [entryFrame, mkF, argsToLocals, Value.category]; done) | rfl
def own_f3_12 : Int32 :=
  (1 : Int32)
def own_f3_65 : Int32 :=
  (1 : Int32)
def own_f3_198 : Int32 :=
  (0 : Int32)
def own_f3_184 (p0 : Int32) : Int32 :=
  if p0 < (65534 : Int32) then
    (own_f3_198)
  else
    if (65535 : Int32) < p0 then
      (own_f3_198)
    else
      (1 : Int32)
def own_f3_170 (p0 : Int32) : Int32 :=
  if p0 < (64976 : Int32) then
    (own_f3_184 p0)
  else
    if (65007 : Int32) < p0 then
      (own_f3_184 p0)
    else
      (1 : Int32)
def own_f3_156 (p0 : Int32) : Int32 :=
  if p0 < (55296 : Int32) then
    (own_f3_170 p0)
  else
    if (63743 : Int32) < p0 then
      (own_f3_170 p0)
    else
      (1 : Int32)
def own_f3_140 (p0 : Int32) : Int32 :=
  if p0 < (12272 : Int32) then
    (own_f3_156 p0)
  else
    if (12288 : Int32) < p0 then
      (own_f3_156 p0)
    else
      (1 : Int32)
def own_f3_124 (p0 : Int32) : Int32 :=
  if p0 < (8592 : Int32) then
    (own_f3_140 p0)
  else
    if (11263 : Int32) < p0 then
      (own_f3_140 p0)
    else
      (1 : Int32)
def own_f3_108 (p0 : Int32) : Int32 :=
  if p0 < (8206 : Int32) then
    (own_f3_124 p0)
  else
    if (8303 : Int32) < p0 then
      (own_f3_124 p0)
    else
      (1 : Int32)
def own_f3_83 (p0 : Int32) : Int32 :=
  if p0 = (894 : Int32) then
    (1 : Int32)
  else
    if p0 < (8192 : Int32) then
      (own_f3_108 p0)
    else
      if (8203 : Int32) < p0 then
        (own_f3_108 p0)
      else
        (1 : Int32)
def own_f3_51 (p0 : Int32) : Int32 :=
  if p0 = (215 : Int32) then
    (own_f3_65)
  else
    if p0 = (247 : Int32) then
      (own_f3_65)
    else
      if p0 < (768 : Int32) then
        (own_f3_83 p0)
      else
        if (879 : Int32) < p0 then
          (own_f3_83 p0)
        else
          (1 : Int32)
def own_f3_28 (p0 : Int32) : Int32 :=
  if p0 = (96 : Int32) then
    (1 : Int32)
  else
    if p0 < (123 : Int32) then
      (own_f3_51 p0)
    else
      if (191 : Int32) < p0 then
        (own_f3_51 p0)
      else
        (1 : Int32)
def own_f3 (p0 : Int32) : Int32 :=
  if p0 < (65 : Int32) then
    (own_f3_12)
  else
    if (983039 : Int32) < p0 then
      (own_f3_12)
    else
      if p0 < (91 : Int32) then
        (own_f3_28 p0)
      else
        if (94 : Int32) < p0 then
          (own_f3_28 p0)
        else
          (1 : Int32)
abbrev own_room3 : Room := { frames := 0, cells := 0, slots := 0, locals := 0 }
set_option maxRecDepth 65536 in
set_option maxHeartbeats 40000000 in
theorem rm3 (l : Launch) (Z : State) (a0 : Array Value) (hw : ∀ d ∈ tables_1, d.before a0 Z = true) (ws : List Jvm.Cond) (p0 : Int32) (h0 : Heap) (n0 : Nat) (Z0 : n0 ≤ h0.size) :
    MetFree l (⟨"com/example/unnest/unnest/xml/XmlCharsIsNameStartPinLaw", "notNameStart", "(I)Z"⟩ : MethodName) (head1 (Jvm.Cond.code (⟨"com/example/unnest/unnest/xml/XmlCharsIsNameStartPinLaw", "notNameStart", "(I)Z"⟩ : MethodName) method_2_code 1 (some .boolean) :: ws) own_room3) (fun a U => a = #[(.int p0)] ∧ Z.Warmed39 U.vm ∧ U.heap = h0) (fun _ _ _ _ _ => True) (fun _ U o U' => ∃ v L, o = .returned v ∧ own_Qp (some (.int (own_f3 p0))) h0 v U'.heap L ∧ FrameEnd U o U' L own_room3.cells own_room3.slots) := by
  refine MetFree.of_bodySF (plainFor_of_name pn_3) hisR ?_
  intro p e s m args below meth c s₁ Bd hml0 hP hK
  obtain ⟨rfl, hZ, hh⟩ := hP
  have hx := Bd.exec
  have hby := Bd.bytes
  have hml : c.maxLocals = 1 := hml0
  have hown : s.vm.findClass "com/example/unnest/unnest/xml/XmlCharsIsNameStartPinLaw" = some m.cls := findClass_of_methodNamed Bd.named
  have hnm := (name_of_methodNamed Bd.named Bd.method).1
  have X0 : Stand p l e own_room3 s m #[(.int p0)] below meth c s₁ [] 0 0 := Stand.of_body Bd
  have e0 : s₁.heap = h0 := by rw [← hh, Bd.state]; rfl
  have N0 := Fr.nil n0
  refine own_enter (ef_3 m p0) ?_
  show own_Goes p.tables e below (s₁.setTop (mkF m 0 #[.val (.int p0)] [])) (own_P s (own_Qp (some (.int (own_f3 p0))) h0) own_room3.cells own_room3.slots)
  refine own_step (fun _ => XS.iloadN X0.here hx rfl (hb hby d3_0) rfl) ?_
  show own_Goes p.tables e below (s₁.setTop (mkF m 1 #[.val (.int p0)] [(.int p0)])) _
  refine own_step (fun _ => XS.bipush X0.here hx rfl (hb hby d3_1)) ?_
  show own_Goes p.tables e below (s₁.setTop (mkF m 3 #[.val (.int p0)] [(.int (65 : Int32)), (.int p0)])) _
  have J12 : ∀ (T_12 : State) (X_12 : Stand p l e own_room3 s m #[(.int p0)] below meth c T_12 [] 0 0) (e_12 : T_12.heap = h0), own_Goes p.tables e below (T_12.setTop (mkF m 12 #[.val (.int p0)] [])) (own_P s (own_Qp (some (.int (own_f3_12))) h0) own_room3.cells own_room3.slots) := by
    intro T_12 X_12 e_12
    refine own_step (fun _ => XS.iconst X_12.here hx rfl (hb hby d3_12)) ?_
    show own_Goes p.tables e below (T_12.setTop (mkF m 13 #[.val (.int p0)] [(.int (1 : Int32))])) _
    have hv : (own_f3_12) = (1 : Int32) := by exact rfl
    rw [hv]
    exact own_retN X_12 hx (t := .boolean) Bd.returns (by simp) (hb hby d3_13) (BodyLoose.notSynchronized Bd) (w := (1 : Int32)) rfl ⟨rfl, rfl, e_12⟩ (by decide) (by decide)
  by_cases hc3 : p0 < (65 : Int32)
  · refine own_step (fun _ => XS.icmpYes X0.here hx rfl (pc0 := 3) (pc' := 12) rfl (hb hby d3_3) rfl (Jvm.Free.XT.ii_lt_t hc3) (by decide) (by decide)) ?_
    show own_Goes p.tables e below (s₁.setTop (mkF m 12 #[.val (.int p0)] [])) _
    have hv : (own_f3 p0) = (own_f3_12) := by exact (if_pos hc3)
    rw [hv]
    exact J12 s₁ X0 e0
  · refine own_step (fun _ => XS.icmpNo X0.here hx rfl (hb hby d3_3) rfl (Jvm.Free.XT.ii_lt_f hc3)) ?_
    show own_Goes p.tables e below (s₁.setTop (mkF m 6 #[.val (.int p0)] [])) _
    refine own_step (fun _ => XS.iloadN X0.here hx rfl (hb hby d3_6) rfl) ?_
    show own_Goes p.tables e below (s₁.setTop (mkF m 7 #[.val (.int p0)] [(.int p0)])) _
    refine own_step (X0.ldcInt hx hown (mvT hZ (hw _ (List.mem_of_getElem? (i := 7) rfl))) (g := (mkF m 7 #[.val (.int p0)] [(.int p0)])) rfl (hb hby d3_7)) ?_
    show own_Goes p.tables e below (s₁.setTop (mkF m 9 #[.val (.int p0)] [(.int (983039 : Int32)), (.int p0)])) _
    by_cases hc9 : (983039 : Int32) < p0
    · refine own_step (fun _ => XS.icmpNo X0.here hx rfl (hb hby d3_9) rfl (Jvm.Free.XT.ii_le_f hc9)) ?_
      show own_Goes p.tables e below (s₁.setTop (mkF m 12 #[.val (.int p0)] [])) _
      have hv : (own_f3 p0) = (own_f3_12) := by exact ((if_neg hc3)).trans (if_pos hc9)
      rw [hv]
      exact J12 s₁ X0 e0
    · refine own_step (fun _ => XS.icmpYes X0.here hx rfl (pc0 := 9) (pc' := 14) rfl (hb hby d3_9) rfl (Jvm.Free.XT.ii_le_t hc9) (by decide) (by decide)) ?_
      show own_Goes p.tables e below (s₁.setTop (mkF m 14 #[.val (.int p0)] [])) _
      refine own_step (fun _ => XS.iloadN X0.here hx rfl (hb hby d3_14) rfl) ?_
      show own_Goes p.tables e below (s₁.setTop (mkF m 15 #[.val (.int p0)] [(.int p0)])) _
      refine own_step (fun _ => XS.bipush X0.here hx rfl (hb hby d3_15)) ?_
      show own_Goes p.tables e below (s₁.setTop (mkF m 17 #[.val (.int p0)] [(.int (91 : Int32)), (.int p0)])) _
      have J28 : ∀ (T_28 : State) (X_28 : Stand p l e own_room3 s m #[(.int p0)] below meth c T_28 [] 0 0) (e_28 : T_28.heap = h0), own_Goes p.tables e below (T_28.setTop (mkF m 28 #[.val (.int p0)] [])) (own_P s (own_Qp (some (.int (own_f3_28 p0))) h0) own_room3.cells own_room3.slots) := by
        intro T_28 X_28 e_28
        refine own_step (fun _ => XS.iloadN X_28.here hx rfl (hb hby d3_28) rfl) ?_
        show own_Goes p.tables e below (T_28.setTop (mkF m 29 #[.val (.int p0)] [(.int p0)])) _
        refine own_step (fun _ => XS.bipush X_28.here hx rfl (hb hby d3_29)) ?_
        show own_Goes p.tables e below (T_28.setTop (mkF m 31 #[.val (.int p0)] [(.int (96 : Int32)), (.int p0)])) _
        by_cases hc31 : p0 = (96 : Int32)
        · refine own_step (fun _ => XS.icmpNo X_28.here hx rfl (hb hby d3_31) rfl (Jvm.Free.XT.ii_ne_f hc31)) ?_
          show own_Goes p.tables e below (T_28.setTop (mkF m 34 #[.val (.int p0)] [])) _
          refine own_step (fun _ => XS.iconst X_28.here hx rfl (hb hby d3_34)) ?_
          show own_Goes p.tables e below (T_28.setTop (mkF m 35 #[.val (.int p0)] [(.int (1 : Int32))])) _
          have hv : (own_f3_28 p0) = (1 : Int32) := by exact (if_pos hc31)
          rw [hv]
          exact own_retN X_28 hx (t := .boolean) Bd.returns (by simp) (hb hby d3_35) (BodyLoose.notSynchronized Bd) (w := (1 : Int32)) rfl ⟨rfl, rfl, e_28⟩ (by decide) (by decide)
        · refine own_step (fun _ => XS.icmpYes X_28.here hx rfl (pc0 := 31) (pc' := 36) rfl (hb hby d3_31) rfl (Jvm.Free.XT.ii_ne_t hc31) (by decide) (by decide)) ?_
          show own_Goes p.tables e below (T_28.setTop (mkF m 36 #[.val (.int p0)] [])) _
          refine own_step (fun _ => XS.iloadN X_28.here hx rfl (hb hby d3_36) rfl) ?_
          show own_Goes p.tables e below (T_28.setTop (mkF m 37 #[.val (.int p0)] [(.int p0)])) _
          refine own_step (fun _ => XS.bipush X_28.here hx rfl (hb hby d3_37)) ?_
          show own_Goes p.tables e below (T_28.setTop (mkF m 39 #[.val (.int p0)] [(.int (123 : Int32)), (.int p0)])) _
          have J51 : ∀ (T_51 : State) (X_51 : Stand p l e own_room3 s m #[(.int p0)] below meth c T_51 [] 0 0) (e_51 : T_51.heap = h0), own_Goes p.tables e below (T_51.setTop (mkF m 51 #[.val (.int p0)] [])) (own_P s (own_Qp (some (.int (own_f3_51 p0))) h0) own_room3.cells own_room3.slots) := by
            intro T_51 X_51 e_51
            refine own_step (fun _ => XS.iloadN X_51.here hx rfl (hb hby d3_51) rfl) ?_
            show own_Goes p.tables e below (T_51.setTop (mkF m 52 #[.val (.int p0)] [(.int p0)])) _
            refine own_step (fun _ => XS.sipush X_51.here hx rfl (hb hby d3_52)) ?_
            show own_Goes p.tables e below (T_51.setTop (mkF m 55 #[.val (.int p0)] [(.int (215 : Int32)), (.int p0)])) _
            have J65 : ∀ (T_65 : State) (X_65 : Stand p l e own_room3 s m #[(.int p0)] below meth c T_65 [] 0 0) (e_65 : T_65.heap = h0), own_Goes p.tables e below (T_65.setTop (mkF m 65 #[.val (.int p0)] [])) (own_P s (own_Qp (some (.int (own_f3_65))) h0) own_room3.cells own_room3.slots) := by
              intro T_65 X_65 e_65
              refine own_step (fun _ => XS.iconst X_65.here hx rfl (hb hby d3_65)) ?_
              show own_Goes p.tables e below (T_65.setTop (mkF m 66 #[.val (.int p0)] [(.int (1 : Int32))])) _
              have hv : (own_f3_65) = (1 : Int32) := by exact rfl
              rw [hv]
              exact own_retN X_65 hx (t := .boolean) Bd.returns (by simp) (hb hby d3_66) (BodyLoose.notSynchronized Bd) (w := (1 : Int32)) rfl ⟨rfl, rfl, e_65⟩ (by decide) (by decide)
            by_cases hc55 : p0 = (215 : Int32)
            · refine own_step (fun _ => XS.icmpYes X_51.here hx rfl (pc0 := 55) (pc' := 65) rfl (hb hby d3_55) rfl (Jvm.Free.XT.ii_eq_t hc55) (by decide) (by decide)) ?_
              show own_Goes p.tables e below (T_51.setTop (mkF m 65 #[.val (.int p0)] [])) _
              have hv : (own_f3_51 p0) = (own_f3_65) := by exact (if_pos hc55)
              rw [hv]
              exact J65 T_51 X_51 e_51
            · refine own_step (fun _ => XS.icmpNo X_51.here hx rfl (hb hby d3_55) rfl (Jvm.Free.XT.ii_eq_f hc55)) ?_
              show own_Goes p.tables e below (T_51.setTop (mkF m 58 #[.val (.int p0)] [])) _
              refine own_step (fun _ => XS.iloadN X_51.here hx rfl (hb hby d3_58) rfl) ?_
              show own_Goes p.tables e below (T_51.setTop (mkF m 59 #[.val (.int p0)] [(.int p0)])) _
              refine own_step (fun _ => XS.sipush X_51.here hx rfl (hb hby d3_59)) ?_
              show own_Goes p.tables e below (T_51.setTop (mkF m 62 #[.val (.int p0)] [(.int (247 : Int32)), (.int p0)])) _
              by_cases hc62 : p0 = (247 : Int32)
              · refine own_step (fun _ => XS.icmpNo X_51.here hx rfl (hb hby d3_62) rfl (Jvm.Free.XT.ii_ne_f hc62)) ?_
                show own_Goes p.tables e below (T_51.setTop (mkF m 65 #[.val (.int p0)] [])) _
                have hv : (own_f3_51 p0) = (own_f3_65) := by exact ((if_neg hc55)).trans (if_pos hc62)
                rw [hv]
                exact J65 T_51 X_51 e_51
              · refine own_step (fun _ => XS.icmpYes X_51.here hx rfl (pc0 := 62) (pc' := 67) rfl (hb hby d3_62) rfl (Jvm.Free.XT.ii_ne_t hc62) (by decide) (by decide)) ?_
                show own_Goes p.tables e below (T_51.setTop (mkF m 67 #[.val (.int p0)] [])) _
                refine own_step (fun _ => XS.iloadN X_51.here hx rfl (hb hby d3_67) rfl) ?_
                show own_Goes p.tables e below (T_51.setTop (mkF m 68 #[.val (.int p0)] [(.int p0)])) _
                refine own_step (fun _ => XS.sipush X_51.here hx rfl (hb hby d3_68)) ?_
                show own_Goes p.tables e below (T_51.setTop (mkF m 71 #[.val (.int p0)] [(.int (768 : Int32)), (.int p0)])) _
                have J83 : ∀ (T_83 : State) (X_83 : Stand p l e own_room3 s m #[(.int p0)] below meth c T_83 [] 0 0) (e_83 : T_83.heap = h0), own_Goes p.tables e below (T_83.setTop (mkF m 83 #[.val (.int p0)] [])) (own_P s (own_Qp (some (.int (own_f3_83 p0))) h0) own_room3.cells own_room3.slots) := by
                  intro T_83 X_83 e_83
                  refine own_step (fun _ => XS.iloadN X_83.here hx rfl (hb hby d3_83) rfl) ?_
                  show own_Goes p.tables e below (T_83.setTop (mkF m 84 #[.val (.int p0)] [(.int p0)])) _
                  refine own_step (fun _ => XS.sipush X_83.here hx rfl (hb hby d3_84)) ?_
                  show own_Goes p.tables e below (T_83.setTop (mkF m 87 #[.val (.int p0)] [(.int (894 : Int32)), (.int p0)])) _
                  by_cases hc87 : p0 = (894 : Int32)
                  · refine own_step (fun _ => XS.icmpNo X_83.here hx rfl (hb hby d3_87) rfl (Jvm.Free.XT.ii_ne_f hc87)) ?_
                    show own_Goes p.tables e below (T_83.setTop (mkF m 90 #[.val (.int p0)] [])) _
                    refine own_step (fun _ => XS.iconst X_83.here hx rfl (hb hby d3_90)) ?_
                    show own_Goes p.tables e below (T_83.setTop (mkF m 91 #[.val (.int p0)] [(.int (1 : Int32))])) _
                    have hv : (own_f3_83 p0) = (1 : Int32) := by exact (if_pos hc87)
                    rw [hv]
                    exact own_retN X_83 hx (t := .boolean) Bd.returns (by simp) (hb hby d3_91) (BodyLoose.notSynchronized Bd) (w := (1 : Int32)) rfl ⟨rfl, rfl, e_83⟩ (by decide) (by decide)
                  · refine own_step (fun _ => XS.icmpYes X_83.here hx rfl (pc0 := 87) (pc' := 92) rfl (hb hby d3_87) rfl (Jvm.Free.XT.ii_ne_t hc87) (by decide) (by decide)) ?_
                    show own_Goes p.tables e below (T_83.setTop (mkF m 92 #[.val (.int p0)] [])) _
                    refine own_step (fun _ => XS.iloadN X_83.here hx rfl (hb hby d3_92) rfl) ?_
                    show own_Goes p.tables e below (T_83.setTop (mkF m 93 #[.val (.int p0)] [(.int p0)])) _
                    refine own_step (fun _ => XS.sipush X_83.here hx rfl (hb hby d3_93)) ?_
                    show own_Goes p.tables e below (T_83.setTop (mkF m 96 #[.val (.int p0)] [(.int (8192 : Int32)), (.int p0)])) _
                    have J108 : ∀ (T_108 : State) (X_108 : Stand p l e own_room3 s m #[(.int p0)] below meth c T_108 [] 0 0) (e_108 : T_108.heap = h0), own_Goes p.tables e below (T_108.setTop (mkF m 108 #[.val (.int p0)] [])) (own_P s (own_Qp (some (.int (own_f3_108 p0))) h0) own_room3.cells own_room3.slots) := by
                      intro T_108 X_108 e_108
                      refine own_step (fun _ => XS.iloadN X_108.here hx rfl (hb hby d3_108) rfl) ?_
                      show own_Goes p.tables e below (T_108.setTop (mkF m 109 #[.val (.int p0)] [(.int p0)])) _
                      refine own_step (fun _ => XS.sipush X_108.here hx rfl (hb hby d3_109)) ?_
                      show own_Goes p.tables e below (T_108.setTop (mkF m 112 #[.val (.int p0)] [(.int (8206 : Int32)), (.int p0)])) _
                      have J124 : ∀ (T_124 : State) (X_124 : Stand p l e own_room3 s m #[(.int p0)] below meth c T_124 [] 0 0) (e_124 : T_124.heap = h0), own_Goes p.tables e below (T_124.setTop (mkF m 124 #[.val (.int p0)] [])) (own_P s (own_Qp (some (.int (own_f3_124 p0))) h0) own_room3.cells own_room3.slots) := by
                        intro T_124 X_124 e_124
                        refine own_step (fun _ => XS.iloadN X_124.here hx rfl (hb hby d3_124) rfl) ?_
                        show own_Goes p.tables e below (T_124.setTop (mkF m 125 #[.val (.int p0)] [(.int p0)])) _
                        refine own_step (fun _ => XS.sipush X_124.here hx rfl (hb hby d3_125)) ?_
                        show own_Goes p.tables e below (T_124.setTop (mkF m 128 #[.val (.int p0)] [(.int (8592 : Int32)), (.int p0)])) _
                        have J140 : ∀ (T_140 : State) (X_140 : Stand p l e own_room3 s m #[(.int p0)] below meth c T_140 [] 0 0) (e_140 : T_140.heap = h0), own_Goes p.tables e below (T_140.setTop (mkF m 140 #[.val (.int p0)] [])) (own_P s (own_Qp (some (.int (own_f3_140 p0))) h0) own_room3.cells own_room3.slots) := by
                          intro T_140 X_140 e_140
                          refine own_step (fun _ => XS.iloadN X_140.here hx rfl (hb hby d3_140) rfl) ?_
                          show own_Goes p.tables e below (T_140.setTop (mkF m 141 #[.val (.int p0)] [(.int p0)])) _
                          refine own_step (fun _ => XS.sipush X_140.here hx rfl (hb hby d3_141)) ?_
                          show own_Goes p.tables e below (T_140.setTop (mkF m 144 #[.val (.int p0)] [(.int (12272 : Int32)), (.int p0)])) _
                          have J156 : ∀ (T_156 : State) (X_156 : Stand p l e own_room3 s m #[(.int p0)] below meth c T_156 [] 0 0) (e_156 : T_156.heap = h0), own_Goes p.tables e below (T_156.setTop (mkF m 156 #[.val (.int p0)] [])) (own_P s (own_Qp (some (.int (own_f3_156 p0))) h0) own_room3.cells own_room3.slots) := by
                            intro T_156 X_156 e_156
                            refine own_step (fun _ => XS.iloadN X_156.here hx rfl (hb hby d3_156) rfl) ?_
                            show own_Goes p.tables e below (T_156.setTop (mkF m 157 #[.val (.int p0)] [(.int p0)])) _
                            refine own_step (X_156.ldcInt hx hown (mvT hZ (hw _ (List.mem_of_getElem? (i := 25) rfl))) (g := (mkF m 157 #[.val (.int p0)] [(.int p0)])) rfl (hb hby d3_157)) ?_
                            show own_Goes p.tables e below (T_156.setTop (mkF m 159 #[.val (.int p0)] [(.int (55296 : Int32)), (.int p0)])) _
                            have J170 : ∀ (T_170 : State) (X_170 : Stand p l e own_room3 s m #[(.int p0)] below meth c T_170 [] 0 0) (e_170 : T_170.heap = h0), own_Goes p.tables e below (T_170.setTop (mkF m 170 #[.val (.int p0)] [])) (own_P s (own_Qp (some (.int (own_f3_170 p0))) h0) own_room3.cells own_room3.slots) := by
                              intro T_170 X_170 e_170
                              refine own_step (fun _ => XS.iloadN X_170.here hx rfl (hb hby d3_170) rfl) ?_
                              show own_Goes p.tables e below (T_170.setTop (mkF m 171 #[.val (.int p0)] [(.int p0)])) _
                              refine own_step (X_170.ldcInt hx hown (mvT hZ (hw _ (List.mem_of_getElem? (i := 26) rfl))) (g := (mkF m 171 #[.val (.int p0)] [(.int p0)])) rfl (hb hby d3_171)) ?_
                              show own_Goes p.tables e below (T_170.setTop (mkF m 173 #[.val (.int p0)] [(.int (64976 : Int32)), (.int p0)])) _
                              have J184 : ∀ (T_184 : State) (X_184 : Stand p l e own_room3 s m #[(.int p0)] below meth c T_184 [] 0 0) (e_184 : T_184.heap = h0), own_Goes p.tables e below (T_184.setTop (mkF m 184 #[.val (.int p0)] [])) (own_P s (own_Qp (some (.int (own_f3_184 p0))) h0) own_room3.cells own_room3.slots) := by
                                intro T_184 X_184 e_184
                                refine own_step (fun _ => XS.iloadN X_184.here hx rfl (hb hby d3_184) rfl) ?_
                                show own_Goes p.tables e below (T_184.setTop (mkF m 185 #[.val (.int p0)] [(.int p0)])) _
                                refine own_step (X_184.ldcInt hx hown (mvT hZ (hw _ (List.mem_of_getElem? (i := 27) rfl))) (g := (mkF m 185 #[.val (.int p0)] [(.int p0)])) rfl (hb hby d3_185)) ?_
                                show own_Goes p.tables e below (T_184.setTop (mkF m 187 #[.val (.int p0)] [(.int (65534 : Int32)), (.int p0)])) _
                                have J198 : ∀ (T_198 : State) (X_198 : Stand p l e own_room3 s m #[(.int p0)] below meth c T_198 [] 0 0) (e_198 : T_198.heap = h0), own_Goes p.tables e below (T_198.setTop (mkF m 198 #[.val (.int p0)] [])) (own_P s (own_Qp (some (.int (own_f3_198))) h0) own_room3.cells own_room3.slots) := by
                                  intro T_198 X_198 e_198
                                  refine own_step (fun _ => XS.iconst X_198.here hx rfl (hb hby d3_198)) ?_
                                  show own_Goes p.tables e below (T_198.setTop (mkF m 199 #[.val (.int p0)] [(.int (0 : Int32))])) _
                                  have hv : (own_f3_198) = (0 : Int32) := by exact rfl
                                  rw [hv]
                                  exact own_retN X_198 hx (t := .boolean) Bd.returns (by simp) (hb hby d3_199) (BodyLoose.notSynchronized Bd) (w := (0 : Int32)) rfl ⟨rfl, rfl, e_198⟩ (by decide) (by decide)
                                by_cases hc187 : p0 < (65534 : Int32)
                                · refine own_step (fun _ => XS.icmpYes X_184.here hx rfl (pc0 := 187) (pc' := 198) rfl (hb hby d3_187) rfl (Jvm.Free.XT.ii_lt_t hc187) (by decide) (by decide)) ?_
                                  show own_Goes p.tables e below (T_184.setTop (mkF m 198 #[.val (.int p0)] [])) _
                                  have hv : (own_f3_184 p0) = (own_f3_198) := by exact (if_pos hc187)
                                  rw [hv]
                                  exact J198 T_184 X_184 e_184
                                · refine own_step (fun _ => XS.icmpNo X_184.here hx rfl (hb hby d3_187) rfl (Jvm.Free.XT.ii_lt_f hc187)) ?_
                                  show own_Goes p.tables e below (T_184.setTop (mkF m 190 #[.val (.int p0)] [])) _
                                  refine own_step (fun _ => XS.iloadN X_184.here hx rfl (hb hby d3_190) rfl) ?_
                                  show own_Goes p.tables e below (T_184.setTop (mkF m 191 #[.val (.int p0)] [(.int p0)])) _
                                  refine own_step (X_184.ldcInt hx hown (mvT hZ (hw _ (List.mem_of_getElem? (i := 34) rfl))) (g := (mkF m 191 #[.val (.int p0)] [(.int p0)])) rfl (hb hby d3_191)) ?_
                                  show own_Goes p.tables e below (T_184.setTop (mkF m 193 #[.val (.int p0)] [(.int (65535 : Int32)), (.int p0)])) _
                                  by_cases hc193 : (65535 : Int32) < p0
                                  · refine own_step (fun _ => XS.icmpYes X_184.here hx rfl (pc0 := 193) (pc' := 198) rfl (hb hby d3_193) rfl (Jvm.Free.XT.ii_gt_t hc193) (by decide) (by decide)) ?_
                                    show own_Goes p.tables e below (T_184.setTop (mkF m 198 #[.val (.int p0)] [])) _
                                    have hv : (own_f3_184 p0) = (own_f3_198) := by exact ((if_neg hc187)).trans (if_pos hc193)
                                    rw [hv]
                                    exact J198 T_184 X_184 e_184
                                  · refine own_step (fun _ => XS.icmpNo X_184.here hx rfl (hb hby d3_193) rfl (Jvm.Free.XT.ii_gt_f hc193)) ?_
                                    show own_Goes p.tables e below (T_184.setTop (mkF m 196 #[.val (.int p0)] [])) _
                                    refine own_step (fun _ => XS.iconst X_184.here hx rfl (hb hby d3_196)) ?_
                                    show own_Goes p.tables e below (T_184.setTop (mkF m 197 #[.val (.int p0)] [(.int (1 : Int32))])) _
                                    have hv : (own_f3_184 p0) = (1 : Int32) := by exact ((if_neg hc187)).trans (if_neg hc193)
                                    rw [hv]
                                    exact own_retN X_184 hx (t := .boolean) Bd.returns (by simp) (hb hby d3_197) (BodyLoose.notSynchronized Bd) (w := (1 : Int32)) rfl ⟨rfl, rfl, e_184⟩ (by decide) (by decide)
                              by_cases hc173 : p0 < (64976 : Int32)
                              · refine own_step (fun _ => XS.icmpYes X_170.here hx rfl (pc0 := 173) (pc' := 184) rfl (hb hby d3_173) rfl (Jvm.Free.XT.ii_lt_t hc173) (by decide) (by decide)) ?_
                                show own_Goes p.tables e below (T_170.setTop (mkF m 184 #[.val (.int p0)] [])) _
                                have hv : (own_f3_170 p0) = (own_f3_184 p0) := by exact (if_pos hc173)
                                rw [hv]
                                exact J184 T_170 X_170 e_170
                              · refine own_step (fun _ => XS.icmpNo X_170.here hx rfl (hb hby d3_173) rfl (Jvm.Free.XT.ii_lt_f hc173)) ?_
                                show own_Goes p.tables e below (T_170.setTop (mkF m 176 #[.val (.int p0)] [])) _
                                refine own_step (fun _ => XS.iloadN X_170.here hx rfl (hb hby d3_176) rfl) ?_
                                show own_Goes p.tables e below (T_170.setTop (mkF m 177 #[.val (.int p0)] [(.int p0)])) _
                                refine own_step (X_170.ldcInt hx hown (mvT hZ (hw _ (List.mem_of_getElem? (i := 33) rfl))) (g := (mkF m 177 #[.val (.int p0)] [(.int p0)])) rfl (hb hby d3_177)) ?_
                                show own_Goes p.tables e below (T_170.setTop (mkF m 179 #[.val (.int p0)] [(.int (65007 : Int32)), (.int p0)])) _
                                by_cases hc179 : (65007 : Int32) < p0
                                · refine own_step (fun _ => XS.icmpYes X_170.here hx rfl (pc0 := 179) (pc' := 184) rfl (hb hby d3_179) rfl (Jvm.Free.XT.ii_gt_t hc179) (by decide) (by decide)) ?_
                                  show own_Goes p.tables e below (T_170.setTop (mkF m 184 #[.val (.int p0)] [])) _
                                  have hv : (own_f3_170 p0) = (own_f3_184 p0) := by exact ((if_neg hc173)).trans (if_pos hc179)
                                  rw [hv]
                                  exact J184 T_170 X_170 e_170
                                · refine own_step (fun _ => XS.icmpNo X_170.here hx rfl (hb hby d3_179) rfl (Jvm.Free.XT.ii_gt_f hc179)) ?_
                                  show own_Goes p.tables e below (T_170.setTop (mkF m 182 #[.val (.int p0)] [])) _
                                  refine own_step (fun _ => XS.iconst X_170.here hx rfl (hb hby d3_182)) ?_
                                  show own_Goes p.tables e below (T_170.setTop (mkF m 183 #[.val (.int p0)] [(.int (1 : Int32))])) _
                                  have hv : (own_f3_170 p0) = (1 : Int32) := by exact ((if_neg hc173)).trans (if_neg hc179)
                                  rw [hv]
                                  exact own_retN X_170 hx (t := .boolean) Bd.returns (by simp) (hb hby d3_183) (BodyLoose.notSynchronized Bd) (w := (1 : Int32)) rfl ⟨rfl, rfl, e_170⟩ (by decide) (by decide)
                            by_cases hc159 : p0 < (55296 : Int32)
                            · refine own_step (fun _ => XS.icmpYes X_156.here hx rfl (pc0 := 159) (pc' := 170) rfl (hb hby d3_159) rfl (Jvm.Free.XT.ii_lt_t hc159) (by decide) (by decide)) ?_
                              show own_Goes p.tables e below (T_156.setTop (mkF m 170 #[.val (.int p0)] [])) _
                              have hv : (own_f3_156 p0) = (own_f3_170 p0) := by exact (if_pos hc159)
                              rw [hv]
                              exact J170 T_156 X_156 e_156
                            · refine own_step (fun _ => XS.icmpNo X_156.here hx rfl (hb hby d3_159) rfl (Jvm.Free.XT.ii_lt_f hc159)) ?_
                              show own_Goes p.tables e below (T_156.setTop (mkF m 162 #[.val (.int p0)] [])) _
                              refine own_step (fun _ => XS.iloadN X_156.here hx rfl (hb hby d3_162) rfl) ?_
                              show own_Goes p.tables e below (T_156.setTop (mkF m 163 #[.val (.int p0)] [(.int p0)])) _
                              refine own_step (X_156.ldcInt hx hown (mvT hZ (hw _ (List.mem_of_getElem? (i := 32) rfl))) (g := (mkF m 163 #[.val (.int p0)] [(.int p0)])) rfl (hb hby d3_163)) ?_
                              show own_Goes p.tables e below (T_156.setTop (mkF m 165 #[.val (.int p0)] [(.int (63743 : Int32)), (.int p0)])) _
                              by_cases hc165 : (63743 : Int32) < p0
                              · refine own_step (fun _ => XS.icmpYes X_156.here hx rfl (pc0 := 165) (pc' := 170) rfl (hb hby d3_165) rfl (Jvm.Free.XT.ii_gt_t hc165) (by decide) (by decide)) ?_
                                show own_Goes p.tables e below (T_156.setTop (mkF m 170 #[.val (.int p0)] [])) _
                                have hv : (own_f3_156 p0) = (own_f3_170 p0) := by exact ((if_neg hc159)).trans (if_pos hc165)
                                rw [hv]
                                exact J170 T_156 X_156 e_156
                              · refine own_step (fun _ => XS.icmpNo X_156.here hx rfl (hb hby d3_165) rfl (Jvm.Free.XT.ii_gt_f hc165)) ?_
                                show own_Goes p.tables e below (T_156.setTop (mkF m 168 #[.val (.int p0)] [])) _
                                refine own_step (fun _ => XS.iconst X_156.here hx rfl (hb hby d3_168)) ?_
                                show own_Goes p.tables e below (T_156.setTop (mkF m 169 #[.val (.int p0)] [(.int (1 : Int32))])) _
                                have hv : (own_f3_156 p0) = (1 : Int32) := by exact ((if_neg hc159)).trans (if_neg hc165)
                                rw [hv]
                                exact own_retN X_156 hx (t := .boolean) Bd.returns (by simp) (hb hby d3_169) (BodyLoose.notSynchronized Bd) (w := (1 : Int32)) rfl ⟨rfl, rfl, e_156⟩ (by decide) (by decide)
                          by_cases hc144 : p0 < (12272 : Int32)
                          · refine own_step (fun _ => XS.icmpYes X_140.here hx rfl (pc0 := 144) (pc' := 156) rfl (hb hby d3_144) rfl (Jvm.Free.XT.ii_lt_t hc144) (by decide) (by decide)) ?_
                            show own_Goes p.tables e below (T_140.setTop (mkF m 156 #[.val (.int p0)] [])) _
                            have hv : (own_f3_140 p0) = (own_f3_156 p0) := by exact (if_pos hc144)
                            rw [hv]
                            exact J156 T_140 X_140 e_140
                          · refine own_step (fun _ => XS.icmpNo X_140.here hx rfl (hb hby d3_144) rfl (Jvm.Free.XT.ii_lt_f hc144)) ?_
                            show own_Goes p.tables e below (T_140.setTop (mkF m 147 #[.val (.int p0)] [])) _
                            refine own_step (fun _ => XS.iloadN X_140.here hx rfl (hb hby d3_147) rfl) ?_
                            show own_Goes p.tables e below (T_140.setTop (mkF m 148 #[.val (.int p0)] [(.int p0)])) _
                            refine own_step (fun _ => XS.sipush X_140.here hx rfl (hb hby d3_148)) ?_
                            show own_Goes p.tables e below (T_140.setTop (mkF m 151 #[.val (.int p0)] [(.int (12288 : Int32)), (.int p0)])) _
                            by_cases hc151 : (12288 : Int32) < p0
                            · refine own_step (fun _ => XS.icmpYes X_140.here hx rfl (pc0 := 151) (pc' := 156) rfl (hb hby d3_151) rfl (Jvm.Free.XT.ii_gt_t hc151) (by decide) (by decide)) ?_
                              show own_Goes p.tables e below (T_140.setTop (mkF m 156 #[.val (.int p0)] [])) _
                              have hv : (own_f3_140 p0) = (own_f3_156 p0) := by exact ((if_neg hc144)).trans (if_pos hc151)
                              rw [hv]
                              exact J156 T_140 X_140 e_140
                            · refine own_step (fun _ => XS.icmpNo X_140.here hx rfl (hb hby d3_151) rfl (Jvm.Free.XT.ii_gt_f hc151)) ?_
                              show own_Goes p.tables e below (T_140.setTop (mkF m 154 #[.val (.int p0)] [])) _
                              refine own_step (fun _ => XS.iconst X_140.here hx rfl (hb hby d3_154)) ?_
                              show own_Goes p.tables e below (T_140.setTop (mkF m 155 #[.val (.int p0)] [(.int (1 : Int32))])) _
                              have hv : (own_f3_140 p0) = (1 : Int32) := by exact ((if_neg hc144)).trans (if_neg hc151)
                              rw [hv]
                              exact own_retN X_140 hx (t := .boolean) Bd.returns (by simp) (hb hby d3_155) (BodyLoose.notSynchronized Bd) (w := (1 : Int32)) rfl ⟨rfl, rfl, e_140⟩ (by decide) (by decide)
                        by_cases hc128 : p0 < (8592 : Int32)
                        · refine own_step (fun _ => XS.icmpYes X_124.here hx rfl (pc0 := 128) (pc' := 140) rfl (hb hby d3_128) rfl (Jvm.Free.XT.ii_lt_t hc128) (by decide) (by decide)) ?_
                          show own_Goes p.tables e below (T_124.setTop (mkF m 140 #[.val (.int p0)] [])) _
                          have hv : (own_f3_124 p0) = (own_f3_140 p0) := by exact (if_pos hc128)
                          rw [hv]
                          exact J140 T_124 X_124 e_124
                        · refine own_step (fun _ => XS.icmpNo X_124.here hx rfl (hb hby d3_128) rfl (Jvm.Free.XT.ii_lt_f hc128)) ?_
                          show own_Goes p.tables e below (T_124.setTop (mkF m 131 #[.val (.int p0)] [])) _
                          refine own_step (fun _ => XS.iloadN X_124.here hx rfl (hb hby d3_131) rfl) ?_
                          show own_Goes p.tables e below (T_124.setTop (mkF m 132 #[.val (.int p0)] [(.int p0)])) _
                          refine own_step (fun _ => XS.sipush X_124.here hx rfl (hb hby d3_132)) ?_
                          show own_Goes p.tables e below (T_124.setTop (mkF m 135 #[.val (.int p0)] [(.int (11263 : Int32)), (.int p0)])) _
                          by_cases hc135 : (11263 : Int32) < p0
                          · refine own_step (fun _ => XS.icmpYes X_124.here hx rfl (pc0 := 135) (pc' := 140) rfl (hb hby d3_135) rfl (Jvm.Free.XT.ii_gt_t hc135) (by decide) (by decide)) ?_
                            show own_Goes p.tables e below (T_124.setTop (mkF m 140 #[.val (.int p0)] [])) _
                            have hv : (own_f3_124 p0) = (own_f3_140 p0) := by exact ((if_neg hc128)).trans (if_pos hc135)
                            rw [hv]
                            exact J140 T_124 X_124 e_124
                          · refine own_step (fun _ => XS.icmpNo X_124.here hx rfl (hb hby d3_135) rfl (Jvm.Free.XT.ii_gt_f hc135)) ?_
                            show own_Goes p.tables e below (T_124.setTop (mkF m 138 #[.val (.int p0)] [])) _
                            refine own_step (fun _ => XS.iconst X_124.here hx rfl (hb hby d3_138)) ?_
                            show own_Goes p.tables e below (T_124.setTop (mkF m 139 #[.val (.int p0)] [(.int (1 : Int32))])) _
                            have hv : (own_f3_124 p0) = (1 : Int32) := by exact ((if_neg hc128)).trans (if_neg hc135)
                            rw [hv]
                            exact own_retN X_124 hx (t := .boolean) Bd.returns (by simp) (hb hby d3_139) (BodyLoose.notSynchronized Bd) (w := (1 : Int32)) rfl ⟨rfl, rfl, e_124⟩ (by decide) (by decide)
                      by_cases hc112 : p0 < (8206 : Int32)
                      · refine own_step (fun _ => XS.icmpYes X_108.here hx rfl (pc0 := 112) (pc' := 124) rfl (hb hby d3_112) rfl (Jvm.Free.XT.ii_lt_t hc112) (by decide) (by decide)) ?_
                        show own_Goes p.tables e below (T_108.setTop (mkF m 124 #[.val (.int p0)] [])) _
                        have hv : (own_f3_108 p0) = (own_f3_124 p0) := by exact (if_pos hc112)
                        rw [hv]
                        exact J124 T_108 X_108 e_108
                      · refine own_step (fun _ => XS.icmpNo X_108.here hx rfl (hb hby d3_112) rfl (Jvm.Free.XT.ii_lt_f hc112)) ?_
                        show own_Goes p.tables e below (T_108.setTop (mkF m 115 #[.val (.int p0)] [])) _
                        refine own_step (fun _ => XS.iloadN X_108.here hx rfl (hb hby d3_115) rfl) ?_
                        show own_Goes p.tables e below (T_108.setTop (mkF m 116 #[.val (.int p0)] [(.int p0)])) _
                        refine own_step (fun _ => XS.sipush X_108.here hx rfl (hb hby d3_116)) ?_
                        show own_Goes p.tables e below (T_108.setTop (mkF m 119 #[.val (.int p0)] [(.int (8303 : Int32)), (.int p0)])) _
                        by_cases hc119 : (8303 : Int32) < p0
                        · refine own_step (fun _ => XS.icmpYes X_108.here hx rfl (pc0 := 119) (pc' := 124) rfl (hb hby d3_119) rfl (Jvm.Free.XT.ii_gt_t hc119) (by decide) (by decide)) ?_
                          show own_Goes p.tables e below (T_108.setTop (mkF m 124 #[.val (.int p0)] [])) _
                          have hv : (own_f3_108 p0) = (own_f3_124 p0) := by exact ((if_neg hc112)).trans (if_pos hc119)
                          rw [hv]
                          exact J124 T_108 X_108 e_108
                        · refine own_step (fun _ => XS.icmpNo X_108.here hx rfl (hb hby d3_119) rfl (Jvm.Free.XT.ii_gt_f hc119)) ?_
                          show own_Goes p.tables e below (T_108.setTop (mkF m 122 #[.val (.int p0)] [])) _
                          refine own_step (fun _ => XS.iconst X_108.here hx rfl (hb hby d3_122)) ?_
                          show own_Goes p.tables e below (T_108.setTop (mkF m 123 #[.val (.int p0)] [(.int (1 : Int32))])) _
                          have hv : (own_f3_108 p0) = (1 : Int32) := by exact ((if_neg hc112)).trans (if_neg hc119)
                          rw [hv]
                          exact own_retN X_108 hx (t := .boolean) Bd.returns (by simp) (hb hby d3_123) (BodyLoose.notSynchronized Bd) (w := (1 : Int32)) rfl ⟨rfl, rfl, e_108⟩ (by decide) (by decide)
                    by_cases hc96 : p0 < (8192 : Int32)
                    · refine own_step (fun _ => XS.icmpYes X_83.here hx rfl (pc0 := 96) (pc' := 108) rfl (hb hby d3_96) rfl (Jvm.Free.XT.ii_lt_t hc96) (by decide) (by decide)) ?_
                      show own_Goes p.tables e below (T_83.setTop (mkF m 108 #[.val (.int p0)] [])) _
                      have hv : (own_f3_83 p0) = (own_f3_108 p0) := by exact ((if_neg hc87)).trans (if_pos hc96)
                      rw [hv]
                      exact J108 T_83 X_83 e_83
                    · refine own_step (fun _ => XS.icmpNo X_83.here hx rfl (hb hby d3_96) rfl (Jvm.Free.XT.ii_lt_f hc96)) ?_
                      show own_Goes p.tables e below (T_83.setTop (mkF m 99 #[.val (.int p0)] [])) _
                      refine own_step (fun _ => XS.iloadN X_83.here hx rfl (hb hby d3_99) rfl) ?_
                      show own_Goes p.tables e below (T_83.setTop (mkF m 100 #[.val (.int p0)] [(.int p0)])) _
                      refine own_step (fun _ => XS.sipush X_83.here hx rfl (hb hby d3_100)) ?_
                      show own_Goes p.tables e below (T_83.setTop (mkF m 103 #[.val (.int p0)] [(.int (8203 : Int32)), (.int p0)])) _
                      by_cases hc103 : (8203 : Int32) < p0
                      · refine own_step (fun _ => XS.icmpYes X_83.here hx rfl (pc0 := 103) (pc' := 108) rfl (hb hby d3_103) rfl (Jvm.Free.XT.ii_gt_t hc103) (by decide) (by decide)) ?_
                        show own_Goes p.tables e below (T_83.setTop (mkF m 108 #[.val (.int p0)] [])) _
                        have hv : (own_f3_83 p0) = (own_f3_108 p0) := by exact (((if_neg hc87)).trans (if_neg hc96)).trans (if_pos hc103)
                        rw [hv]
                        exact J108 T_83 X_83 e_83
                      · refine own_step (fun _ => XS.icmpNo X_83.here hx rfl (hb hby d3_103) rfl (Jvm.Free.XT.ii_gt_f hc103)) ?_
                        show own_Goes p.tables e below (T_83.setTop (mkF m 106 #[.val (.int p0)] [])) _
                        refine own_step (fun _ => XS.iconst X_83.here hx rfl (hb hby d3_106)) ?_
                        show own_Goes p.tables e below (T_83.setTop (mkF m 107 #[.val (.int p0)] [(.int (1 : Int32))])) _
                        have hv : (own_f3_83 p0) = (1 : Int32) := by exact (((if_neg hc87)).trans (if_neg hc96)).trans (if_neg hc103)
                        rw [hv]
                        exact own_retN X_83 hx (t := .boolean) Bd.returns (by simp) (hb hby d3_107) (BodyLoose.notSynchronized Bd) (w := (1 : Int32)) rfl ⟨rfl, rfl, e_83⟩ (by decide) (by decide)
                by_cases hc71 : p0 < (768 : Int32)
                · refine own_step (fun _ => XS.icmpYes X_51.here hx rfl (pc0 := 71) (pc' := 83) rfl (hb hby d3_71) rfl (Jvm.Free.XT.ii_lt_t hc71) (by decide) (by decide)) ?_
                  show own_Goes p.tables e below (T_51.setTop (mkF m 83 #[.val (.int p0)] [])) _
                  have hv : (own_f3_51 p0) = (own_f3_83 p0) := by exact (((if_neg hc55)).trans (if_neg hc62)).trans (if_pos hc71)
                  rw [hv]
                  exact J83 T_51 X_51 e_51
                · refine own_step (fun _ => XS.icmpNo X_51.here hx rfl (hb hby d3_71) rfl (Jvm.Free.XT.ii_lt_f hc71)) ?_
                  show own_Goes p.tables e below (T_51.setTop (mkF m 74 #[.val (.int p0)] [])) _
                  refine own_step (fun _ => XS.iloadN X_51.here hx rfl (hb hby d3_74) rfl) ?_
                  show own_Goes p.tables e below (T_51.setTop (mkF m 75 #[.val (.int p0)] [(.int p0)])) _
                  refine own_step (fun _ => XS.sipush X_51.here hx rfl (hb hby d3_75)) ?_
                  show own_Goes p.tables e below (T_51.setTop (mkF m 78 #[.val (.int p0)] [(.int (879 : Int32)), (.int p0)])) _
                  by_cases hc78 : (879 : Int32) < p0
                  · refine own_step (fun _ => XS.icmpYes X_51.here hx rfl (pc0 := 78) (pc' := 83) rfl (hb hby d3_78) rfl (Jvm.Free.XT.ii_gt_t hc78) (by decide) (by decide)) ?_
                    show own_Goes p.tables e below (T_51.setTop (mkF m 83 #[.val (.int p0)] [])) _
                    have hv : (own_f3_51 p0) = (own_f3_83 p0) := by exact ((((if_neg hc55)).trans (if_neg hc62)).trans (if_neg hc71)).trans (if_pos hc78)
                    rw [hv]
                    exact J83 T_51 X_51 e_51
                  · refine own_step (fun _ => XS.icmpNo X_51.here hx rfl (hb hby d3_78) rfl (Jvm.Free.XT.ii_gt_f hc78)) ?_
                    show own_Goes p.tables e below (T_51.setTop (mkF m 81 #[.val (.int p0)] [])) _
                    refine own_step (fun _ => XS.iconst X_51.here hx rfl (hb hby d3_81)) ?_
                    show own_Goes p.tables e below (T_51.setTop (mkF m 82 #[.val (.int p0)] [(.int (1 : Int32))])) _
                    have hv : (own_f3_51 p0) = (1 : Int32) := by exact ((((if_neg hc55)).trans (if_neg hc62)).trans (if_neg hc71)).trans (if_neg hc78)
                    rw [hv]
                    exact own_retN X_51 hx (t := .boolean) Bd.returns (by simp) (hb hby d3_82) (BodyLoose.notSynchronized Bd) (w := (1 : Int32)) rfl ⟨rfl, rfl, e_51⟩ (by decide) (by decide)
          by_cases hc39 : p0 < (123 : Int32)
          · refine own_step (fun _ => XS.icmpYes X_28.here hx rfl (pc0 := 39) (pc' := 51) rfl (hb hby d3_39) rfl (Jvm.Free.XT.ii_lt_t hc39) (by decide) (by decide)) ?_
            show own_Goes p.tables e below (T_28.setTop (mkF m 51 #[.val (.int p0)] [])) _
            have hv : (own_f3_28 p0) = (own_f3_51 p0) := by exact ((if_neg hc31)).trans (if_pos hc39)
            rw [hv]
            exact J51 T_28 X_28 e_28
          · refine own_step (fun _ => XS.icmpNo X_28.here hx rfl (hb hby d3_39) rfl (Jvm.Free.XT.ii_lt_f hc39)) ?_
            show own_Goes p.tables e below (T_28.setTop (mkF m 42 #[.val (.int p0)] [])) _
            refine own_step (fun _ => XS.iloadN X_28.here hx rfl (hb hby d3_42) rfl) ?_
            show own_Goes p.tables e below (T_28.setTop (mkF m 43 #[.val (.int p0)] [(.int p0)])) _
            refine own_step (fun _ => XS.sipush X_28.here hx rfl (hb hby d3_43)) ?_
            show own_Goes p.tables e below (T_28.setTop (mkF m 46 #[.val (.int p0)] [(.int (191 : Int32)), (.int p0)])) _
            by_cases hc46 : (191 : Int32) < p0
            · refine own_step (fun _ => XS.icmpYes X_28.here hx rfl (pc0 := 46) (pc' := 51) rfl (hb hby d3_46) rfl (Jvm.Free.XT.ii_gt_t hc46) (by decide) (by decide)) ?_
              show own_Goes p.tables e below (T_28.setTop (mkF m 51 #[.val (.int p0)] [])) _
              have hv : (own_f3_28 p0) = (own_f3_51 p0) := by exact (((if_neg hc31)).trans (if_neg hc39)).trans (if_pos hc46)
              rw [hv]
              exact J51 T_28 X_28 e_28
            · refine own_step (fun _ => XS.icmpNo X_28.here hx rfl (hb hby d3_46) rfl (Jvm.Free.XT.ii_gt_f hc46)) ?_
              show own_Goes p.tables e below (T_28.setTop (mkF m 49 #[.val (.int p0)] [])) _
              refine own_step (fun _ => XS.iconst X_28.here hx rfl (hb hby d3_49)) ?_
              show own_Goes p.tables e below (T_28.setTop (mkF m 50 #[.val (.int p0)] [(.int (1 : Int32))])) _
              have hv : (own_f3_28 p0) = (1 : Int32) := by exact (((if_neg hc31)).trans (if_neg hc39)).trans (if_neg hc46)
              rw [hv]
              exact own_retN X_28 hx (t := .boolean) Bd.returns (by simp) (hb hby d3_50) (BodyLoose.notSynchronized Bd) (w := (1 : Int32)) rfl ⟨rfl, rfl, e_28⟩ (by decide) (by decide)
      by_cases hc17 : p0 < (91 : Int32)
      · refine own_step (fun _ => XS.icmpYes X0.here hx rfl (pc0 := 17) (pc' := 28) rfl (hb hby d3_17) rfl (Jvm.Free.XT.ii_lt_t hc17) (by decide) (by decide)) ?_
        show own_Goes p.tables e below (s₁.setTop (mkF m 28 #[.val (.int p0)] [])) _
        have hv : (own_f3 p0) = (own_f3_28 p0) := by exact (((if_neg hc3)).trans (if_neg hc9)).trans (if_pos hc17)
        rw [hv]
        exact J28 s₁ X0 e0
      · refine own_step (fun _ => XS.icmpNo X0.here hx rfl (hb hby d3_17) rfl (Jvm.Free.XT.ii_lt_f hc17)) ?_
        show own_Goes p.tables e below (s₁.setTop (mkF m 20 #[.val (.int p0)] [])) _
        refine own_step (fun _ => XS.iloadN X0.here hx rfl (hb hby d3_20) rfl) ?_
        show own_Goes p.tables e below (s₁.setTop (mkF m 21 #[.val (.int p0)] [(.int p0)])) _
        refine own_step (fun _ => XS.bipush X0.here hx rfl (hb hby d3_21)) ?_
        show own_Goes p.tables e below (s₁.setTop (mkF m 23 #[.val (.int p0)] [(.int (94 : Int32)), (.int p0)])) _
        by_cases hc23 : (94 : Int32) < p0
        · refine own_step (fun _ => XS.icmpYes X0.here hx rfl (pc0 := 23) (pc' := 28) rfl (hb hby d3_23) rfl (Jvm.Free.XT.ii_gt_t hc23) (by decide) (by decide)) ?_
          show own_Goes p.tables e below (s₁.setTop (mkF m 28 #[.val (.int p0)] [])) _
          have hv : (own_f3 p0) = (own_f3_28 p0) := by exact ((((if_neg hc3)).trans (if_neg hc9)).trans (if_neg hc17)).trans (if_pos hc23)
          rw [hv]
          exact J28 s₁ X0 e0
        · refine own_step (fun _ => XS.icmpNo X0.here hx rfl (hb hby d3_23) rfl (Jvm.Free.XT.ii_gt_f hc23)) ?_
          show own_Goes p.tables e below (s₁.setTop (mkF m 26 #[.val (.int p0)] [])) _
          refine own_step (fun _ => XS.iconst X0.here hx rfl (hb hby d3_26)) ?_
          show own_Goes p.tables e below (s₁.setTop (mkF m 27 #[.val (.int p0)] [(.int (1 : Int32))])) _
          have hv : (own_f3 p0) = (1 : Int32) := by exact ((((if_neg hc3)).trans (if_neg hc9)).trans (if_neg hc17)).trans (if_neg hc23)
          rw [hv]
          exact own_retN X0 hx (t := .boolean) Bd.returns (by simp) (hb hby d3_27) (BodyLoose.notSynchronized Bd) (w := (1 : Int32)) rfl ⟨rfl, rfl, e0⟩ (by decide) (by decide)
theorem d1_0 : decode method_3_code 0 = .ok (.iload_n 0, 1) := by decide +kernel
theorem d1_1 : decode method_3_code 1 = .ok (.invokestatic 14, 3) := by decide +kernel
theorem d1_4 : decode method_3_code 4 = .ok (.iload_n 0, 1) := by decide +kernel
theorem d1_5 : decode method_3_code 5 = .ok (.invokestatic 20, 3) := by decide +kernel
theorem d1_8 : decode method_3_code 8 = .ok (.ifCond .ne 7, 3) := by decide +kernel
theorem d1_11 : decode method_3_code 11 = .ok (.iconst 1, 1) := by decide +kernel
theorem d1_12 : decode method_3_code 12 = .ok (.goto 4, 3) := by decide +kernel
theorem d1_15 : decode method_3_code 15 = .ok (.iconst 0, 1) := by decide +kernel
theorem d1_16 : decode method_3_code 16 = .ok (.if_icmp .ne 7, 3) := by decide +kernel
theorem d1_19 : decode method_3_code 19 = .ok (.iconst 1, 1) := by decide +kernel
theorem d1_20 : decode method_3_code 20 = .ok (.goto 4, 3) := by decide +kernel
theorem d1_23 : decode method_3_code 23 = .ok (.iconst 0, 1) := by decide +kernel
theorem d1_24 : decode method_3_code 24 = .ok (.ireturn, 1) := by decide +kernel
theorem pn_1 : plainName "com/example/unnest/unnest/xml/XmlCharsIsNameStartPinLaw" = true := by first | (simp [plainName, overriddenIn]; done) | decide +kernel
theorem pd_1_0 : parseMethodDescriptor "(I)Z" = some ⟨[.int], some .boolean⟩ := by decide +kernel
theorem ef_1 (m : MethodId) (p0 : Int32) : entryFrame m #[(.int p0)] 1 = mkF m 0 #[.val (.int p0)] [] := by first | (simp [entryFrame, mkF, argsToLocals, Value.category]; done) | rfl
def own_f1_16 (p0 : Int32) (v16_t0 : Int32) : Int32 :=
  if (own_f2 p0) = v16_t0 then
    (1 : Int32)
  else
    (0 : Int32)
def own_f1 (p0 : Int32) : Int32 :=
  if (own_f3 p0) = 0 then
    (own_f1_16 p0 (1 : Int32))
  else
    (own_f1_16 p0 (0 : Int32))
abbrev own_room1 : Room := { frames := 1, cells := 0, slots := 0, locals := 13 }
set_option maxRecDepth 65536 in
set_option maxHeartbeats 40000000 in
theorem rm1 (l : Launch) (Z : State) (a0 : Array Value) (hw : ∀ d ∈ tables_1, d.before a0 Z = true) (ws : List Jvm.Cond) (p0 : Int32) (h0 : Heap) (n0 : Nat) (Z0 : n0 ≤ h0.size) :
    MetFree l (⟨"com/example/unnest/unnest/xml/XmlCharsIsNameStartPinLaw", "agrees", "(I)Z"⟩ : MethodName) (head1 (Jvm.Cond.code (⟨"com/example/unnest/unnest/xml/XmlCharsIsNameStartPinLaw", "agrees", "(I)Z"⟩ : MethodName) method_3_code 1 (some .boolean) :: ws) own_room1) (fun a U => a = #[(.int p0)] ∧ Z.Warmed39 U.vm ∧ U.heap = h0) (fun _ _ _ _ _ => True) (fun _ U o U' => ∃ v L, o = .returned v ∧ own_Qp (some (.int (own_f1 p0))) h0 v U'.heap L ∧ FrameEnd U o U' L own_room1.cells own_room1.slots) := by
  refine MetFree.of_bodySF (plainFor_of_name pn_1) hisR ?_
  intro p e s m args below meth c s₁ Bd hml0 hP hK
  obtain ⟨rfl, hZ, hh⟩ := hP
  have hx := Bd.exec
  have hby := Bd.bytes
  have hml : c.maxLocals = 1 := hml0
  have hown : s.vm.findClass "com/example/unnest/unnest/xml/XmlCharsIsNameStartPinLaw" = some m.cls := findClass_of_methodNamed Bd.named
  have hnm := (name_of_methodNamed Bd.named Bd.method).1
  have X0 : Stand p l e own_room1 s m #[(.int p0)] below meth c s₁ [] 0 0 := Stand.of_body Bd
  have e0 : s₁.heap = h0 := by rw [← hh, Bd.state]; rfl
  have N0 := Fr.nil n0
  refine own_enter (ef_1 m p0) ?_
  show own_Goes p.tables e below (s₁.setTop (mkF m 0 #[.val (.int p0)] [])) (own_P s (own_Qp (some (.int (own_f1 p0))) h0) own_room1.cells own_room1.slots)
  refine own_step (fun _ => XS.iloadN X0.here hx rfl (hb hby d1_0) rfl) ?_
  show own_Goes p.tables e below (s₁.setTop (mkF m 1 #[.val (.int p0)] [(.int p0)])) _
  obtain ⟨_, _, ⟨T1, L1, k1, n1⟩, -, X1, ⟨Lc1, hQ1, l1, y1, z1⟩, st1⟩ := Jvm.LawKit.callS X0 hx (y := (⟨"com/example/unnest/unnest/xml/XmlChars", "isNameStart", "(I)Z"⟩ : MethodName)) hown (mvT hZ (hw _ (List.mem_of_getElem? (i := 14) rfl))) (mvT hZ (hw _ (List.mem_of_getElem? (i := 15) rfl))) (mvT hZ (hw _ (List.mem_of_getElem? (i := 16) rfl))) (mvT hZ (hw _ (List.mem_of_getElem? (i := 17) rfl))) (by decide) (backOf (W := 0) (rm2 l Z a0 hw [] p0 h0 n0 Z0) hZ (hw _ (List.mem_of_getElem? (i := 17) rfl)) (hw _ (List.mem_of_getElem? (i := 16) rfl)) (by decide) (by decide)) (g := (mkF m 1 #[.val (.int p0)] [(.int p0)])) rfl (by rw [hml]; rfl) (argsL := [(.int p0)]) (rest := []) (lenOf pd_1_0 rfl) rfl (by show 2 * 0 + _ ≤ _; exact Nat.le_of_eq rfl) (hb hby d1_1) (fun _ _ => ⟨rfl, e0, (by decide : 0 + 0 ≤ _), (by decide : 0 + 0 ≤ _)⟩)
  dsimp only [Pt.U, Pt.locs, Pt.cells, Pt.slots] at X1 l1 y1 z1 st1 hQ1
  subst l1 y1 z1
  obtain ⟨rfl, rfl, e1⟩ := hQ1
  have X1 : Stand p l e own_room1 s m #[(.int p0)] below meth c T1 [] 0 0 := own_flat X1
  refine own_step (st1) ?_
  show own_Goes p.tables e below (T1.setTop (mkF m 4 #[.val (.int p0)] [(.int (own_f2 p0))])) _
  refine own_step (fun _ => XS.iloadN X1.here hx rfl (hb hby d1_4) rfl) ?_
  show own_Goes p.tables e below (T1.setTop (mkF m 5 #[.val (.int p0)] [(.int p0), (.int (own_f2 p0))])) _
  obtain ⟨_, _, ⟨T2, L2, k2, n2⟩, -, X2, ⟨Lc2, hQ2, l2, y2, z2⟩, st2⟩ := Jvm.LawKit.callS X1 hx (y := (⟨"com/example/unnest/unnest/xml/XmlCharsIsNameStartPinLaw", "notNameStart", "(I)Z"⟩ : MethodName)) hown (mvT hZ (hw _ (List.mem_of_getElem? (i := 21) rfl))) (mvT hZ (hw _ (List.mem_of_getElem? (i := 22) rfl))) (mvT hZ (hw _ (List.mem_of_getElem? (i := 12) rfl))) (mvT hZ (hw _ (List.mem_of_getElem? (i := 23) rfl))) (by decide) (backOf (W := 1) (rm3 l Z a0 hw [] p0 h0 n0 Z0) hZ (hw _ (List.mem_of_getElem? (i := 23) rfl)) (hw _ (List.mem_of_getElem? (i := 12) rfl)) (by decide) (by decide)) (g := (mkF m 5 #[.val (.int p0)] [(.int p0), (.int (own_f2 p0))])) rfl (by rw [hml]; rfl) (argsL := [(.int p0)]) (rest := [(.int (own_f2 p0))]) (lenOf pd_1_0 rfl) rfl (by show 2 * 0 + _ ≤ _; exact Nat.le_of_eq rfl) (hb hby d1_5) (fun _ _ => ⟨rfl, e1, (by decide : 0 + 0 ≤ _), (by decide : 0 + 0 ≤ _)⟩)
  dsimp only [Pt.U, Pt.locs, Pt.cells, Pt.slots] at X2 l2 y2 z2 st2 hQ2
  subst l2 y2 z2
  obtain ⟨rfl, rfl, e2⟩ := hQ2
  have X2 : Stand p l e own_room1 s m #[(.int p0)] below meth c T2 [] 0 0 := own_flat X2
  refine own_step (st2) ?_
  show own_Goes p.tables e below (T2.setTop (mkF m 8 #[.val (.int p0)] [(.int (own_f3 p0)), (.int (own_f2 p0))])) _
  have J16 : ∀ (T_16 : State) (X_16 : Stand p l e own_room1 s m #[(.int p0)] below meth c T_16 [] 0 0) (e_16 : T_16.heap = h0) (v16_t0 : Int32), own_Goes p.tables e below (T_16.setTop (mkF m 16 #[.val (.int p0)] [(.int v16_t0), (.int (own_f2 p0))])) (own_P s (own_Qp (some (.int (own_f1_16 p0 v16_t0))) h0) own_room1.cells own_room1.slots) := by
    intro T_16 X_16 e_16 v16_t0
    by_cases hc16 : (own_f2 p0) = v16_t0
    · refine own_step (fun _ => XS.icmpNo X_16.here hx rfl (hb hby d1_16) rfl (Jvm.Free.XT.ii_ne_f hc16)) ?_
      show own_Goes p.tables e below (T_16.setTop (mkF m 19 #[.val (.int p0)] [])) _
      refine own_step (fun _ => XS.iconst X_16.here hx rfl (hb hby d1_19)) ?_
      show own_Goes p.tables e below (T_16.setTop (mkF m 20 #[.val (.int p0)] [(.int (1 : Int32))])) _
      refine own_step (fun _ => XS.goto X_16.here hx rfl (pc0 := 20) (pc' := 24) rfl (hb hby d1_20) (by decide) (by decide)) ?_
      show own_Goes p.tables e below (T_16.setTop (mkF m 24 #[.val (.int p0)] [(.int (1 : Int32))])) _
      have hv : (own_f1_16 p0 v16_t0) = (1 : Int32) := by exact (if_pos hc16)
      rw [hv]
      exact own_retN X_16 hx (t := .boolean) Bd.returns (by simp) (hb hby d1_24) (BodyLoose.notSynchronized Bd) (w := (1 : Int32)) rfl ⟨rfl, rfl, e_16⟩ (by decide) (by decide)
    · refine own_step (fun _ => XS.icmpYes X_16.here hx rfl (pc0 := 16) (pc' := 23) rfl (hb hby d1_16) rfl (Jvm.Free.XT.ii_ne_t hc16) (by decide) (by decide)) ?_
      show own_Goes p.tables e below (T_16.setTop (mkF m 23 #[.val (.int p0)] [])) _
      refine own_step (fun _ => XS.iconst X_16.here hx rfl (hb hby d1_23)) ?_
      show own_Goes p.tables e below (T_16.setTop (mkF m 24 #[.val (.int p0)] [(.int (0 : Int32))])) _
      have hv : (own_f1_16 p0 v16_t0) = (0 : Int32) := by exact (if_neg hc16)
      rw [hv]
      exact own_retN X_16 hx (t := .boolean) Bd.returns (by simp) (hb hby d1_24) (BodyLoose.notSynchronized Bd) (w := (0 : Int32)) rfl ⟨rfl, rfl, e_16⟩ (by decide) (by decide)
  by_cases hc8 : (own_f3 p0) = 0
  · refine own_step (fun _ => XS.ifNo X2.here hx rfl (hb hby d1_8) rfl (Jvm.Free.XT.i0_ne_f hc8)) ?_
    show own_Goes p.tables e below (T2.setTop (mkF m 11 #[.val (.int p0)] [(.int (own_f2 p0))])) _
    refine own_step (fun _ => XS.iconst X2.here hx rfl (hb hby d1_11)) ?_
    show own_Goes p.tables e below (T2.setTop (mkF m 12 #[.val (.int p0)] [(.int (1 : Int32)), (.int (own_f2 p0))])) _
    refine own_step (fun _ => XS.goto X2.here hx rfl (pc0 := 12) (pc' := 16) rfl (hb hby d1_12) (by decide) (by decide)) ?_
    show own_Goes p.tables e below (T2.setTop (mkF m 16 #[.val (.int p0)] [(.int (1 : Int32)), (.int (own_f2 p0))])) _
    have hv : (own_f1 p0) = (own_f1_16 p0 (1 : Int32)) := by exact (if_pos hc8)
    rw [hv]
    exact J16 T2 X2 e2 (1 : Int32)
  · refine own_step (fun _ => XS.ifYes X2.here hx rfl (pc0 := 8) (pc' := 15) rfl (hb hby d1_8) rfl (Jvm.Free.XT.i0_ne_t hc8) (by decide) (by decide)) ?_
    show own_Goes p.tables e below (T2.setTop (mkF m 15 #[.val (.int p0)] [(.int (own_f2 p0))])) _
    refine own_step (fun _ => XS.iconst X2.here hx rfl (hb hby d1_15)) ?_
    show own_Goes p.tables e below (T2.setTop (mkF m 16 #[.val (.int p0)] [(.int (0 : Int32)), (.int (own_f2 p0))])) _
    have hv : (own_f1 p0) = (own_f1_16 p0 (0 : Int32)) := by exact (if_neg hc8)
    rw [hv]
    exact J16 T2 X2 e2 (0 : Int32)
theorem pn_0 : plainName "com/example/unnest/unnest/xml/XmlCharsIsNameStartPinLaw" = true := by first | (simp [plainName, overriddenIn]; done) | decide +kernel
theorem pd_0_0 : parseMethodDescriptor "(I)Z" = some ⟨[.int], some .boolean⟩ := by decide +kernel
theorem ef_0 (m : MethodId) (p0 : Int32) (p1 : Int32) : entryFrame m #[(.int p0), (.int p1)] maxLocals = mkF m 0 #[.val (.int p0), .val (.int p1), .unset, .unset, .unset, .unset] [] := by first | (simp [entryFrame, mkF, argsToLocals, Value.category, maxLocals]; done) | rfl
def own_f0_258 : Int32 :=
  (0 : Int32)
def own_f0 (p0 : Int32) (p1 : Int32) : Int32 :=
  let z219 : Int32 := ((((p1.toUInt32 >>> ((5 : Int32) &&& 31).toUInt32).toInt32) - ((p1.toUInt32 >>> ((5 : Int32) &&& 31).toUInt32).toInt32) / (3 : Int32) * (3 : Int32)) - (1 : Int32))
  let z227 : Int32 := ((own_tb.getD (p1 &&& (31 : Int32)).toNatClampNeg 0) + z219)
  if (own_f1 p0) = 0 then
    (own_f0_258)
  else
    if (own_f1 (p0 &&& (131071 : Int32))) = 0 then
      (own_f0_258)
    else
      if (own_f1 z227) = 0 then
        (own_f0_258)
      else
        (1 : Int32)
set_option maxRecDepth 65536 in
set_option maxHeartbeats 40000000 in
theorem rm0 (l : Launch) (Z : State) (a0 : Array Value) (hw : ∀ d ∈ tables_1, d.before a0 Z = true) (ws : List Jvm.Cond) (p0 : Int32) (p1 : Int32) (h0 : Heap) (n0 : Nat) (Z0 : n0 ≤ h0.size) :
    MetFree l x (head1 (Jvm.Cond.code x code maxLocals ret :: ws) room_1) (fun a U => a = #[(.int p0), (.int p1)] ∧ Z.Warmed39 U.vm ∧ U.heap = h0) (fun _ _ _ _ _ => True) (fun _ U o U' => ∃ v L, o = .returned v ∧ own_Ql (some (.int (own_f0 p0 p1))) n0 v U'.heap L ∧ FrameEnd U o U' L 1 32) := by
  refine MetFree.of_bodySF (plainFor_of_name pn_0) hisR ?_
  intro p e s m args below meth c s₁ Bd hml0 hP hK
  obtain ⟨rfl, hZ, hh⟩ := hP
  have hx := Bd.exec
  have hby := Bd.bytes
  have hml : c.maxLocals = 6 := hml0
  have hown : s.vm.findClass "com/example/unnest/unnest/xml/XmlCharsIsNameStartPinLaw" = some m.cls := findClass_of_methodNamed Bd.named
  have hnm := (name_of_methodNamed Bd.named Bd.method).1
  have X0 : Stand p l e room_1 s m #[(.int p0), (.int p1)] below meth c s₁ [] 0 0 := Stand.of_body Bd
  have e0 : s₁.heap = h0 := by rw [← hh, Bd.state]; rfl
  have N0 := Fr.nil n0
  refine own_enter (ef_0 m p0 p1) ?_
  show own_Goes p.tables e below (s₁.setTop (mkF m 0 #[.val (.int p0), .val (.int p1), .unset, .unset, .unset, .unset] [])) (own_P s (own_Ql (some (.int (own_f0 p0 p1))) n0) 1 32)
  refine own_step (fun _ => XS.bipush X0.here hx rfl (hb hby at_0)) ?_
  show own_Goes p.tables e below (s₁.setTop (mkF m 2 #[.val (.int p0), .val (.int p1), .unset, .unset, .unset, .unset] [(.int (32 : Int32))])) _
  obtain ⟨T1, h1, b2, k1, X1, e1, E1, g1, V1, st1⟩ := own_newA X0 hx hZ (hw _ (List.mem_of_getElem? (i := 0) rfl)) e0 (g := (mkF m 2 #[.val (.int p0), .val (.int p1), .unset, .unset, .unset, .unset] [(.int (32 : Int32))])) rfl (hb hby at_2) rfl 32 (by decide) (by decide) (by decide) (by decide) (by decide) rfl
  have g_b2 : n0 ≤ b2 := Nat.le_trans Z0 (Nat.le_of_eq g1.symm)
  have sz_b2 : h0.size ≤ b2 := Nat.le_trans (Keep.refl h0 []).1 (Nat.le_of_eq g1.symm)
  have K1 : Keep h0 h1 [] := (Keep.refl h0 []).ext E1
  have Z1 : n0 ≤ h1.size := Nat.le_trans Z0 E1.1
  have V1 : own_A Z h1 b2 k1 .int (32 : Int32) [(0 : Int32), (0 : Int32), (0 : Int32), (0 : Int32), (0 : Int32), (0 : Int32), (0 : Int32), (0 : Int32), (0 : Int32), (0 : Int32), (0 : Int32), (0 : Int32), (0 : Int32), (0 : Int32), (0 : Int32), (0 : Int32), (0 : Int32), (0 : Int32), (0 : Int32), (0 : Int32), (0 : Int32), (0 : Int32), (0 : Int32), (0 : Int32), (0 : Int32), (0 : Int32), (0 : Int32), (0 : Int32), (0 : Int32), (0 : Int32), (0 : Int32), (0 : Int32)] := V1
  refine own_step (st1) ?_
  show own_Goes p.tables e below (T1.setTop (mkF m 4 #[.val (.int p0), .val (.int p1), .unset, .unset, .unset, .unset] [(.ref b2)])) _
  refine own_step (fun _ => XS.dup X1.here hx rfl (hb hby at_4) rfl rfl) ?_
  show own_Goes p.tables e below (T1.setTop (mkF m 5 #[.val (.int p0), .val (.int p1), .unset, .unset, .unset, .unset] [(.ref b2), (.ref b2)])) _
  refine own_step (fun _ => XS.iconst X1.here hx rfl (hb hby at_5)) ?_
  show own_Goes p.tables e below (T1.setTop (mkF m 6 #[.val (.int p0), .val (.int p1), .unset, .unset, .unset, .unset] [(.int (0 : Int32)), (.ref b2), (.ref b2)])) _
  refine own_step (fun _ => XS.bipush X1.here hx rfl (hb hby at_6)) ?_
  show own_Goes p.tables e below (T1.setTop (mkF m 8 #[.val (.int p0), .val (.int p1), .unset, .unset, .unset, .unset] [(.int (65 : Int32)), (.int (0 : Int32)), (.ref b2), (.ref b2)])) _
  obtain ⟨T2, h2, L2, X2, e2, N2, V2, W2, st2⟩ := own_stI X1 hx hZ e1 V1 (j := (0 : Int32)) 0 ⟨by decide, by decide⟩ (by decide) (by decide) (g := (mkF m 8 #[.val (.int p0), .val (.int p1), .unset, .unset, .unset, .unset] [(.int (65 : Int32)), (.int (0 : Int32)), (.ref b2), (.ref b2)])) rfl rfl (hb hby at_8)
  have N2 := N2 n0 N0 g_b2
  have K2 : Keep h0 h2 [] := K1.wr W2 (Or.inr sz_b2)
  have Z2 : n0 ≤ h2.size := Nat.le_trans Z0 K2.1
  have V2 : own_A Z h2 b2 k1 .int (32 : Int32) [(65 : Int32), (0 : Int32), (0 : Int32), (0 : Int32), (0 : Int32), (0 : Int32), (0 : Int32), (0 : Int32), (0 : Int32), (0 : Int32), (0 : Int32), (0 : Int32), (0 : Int32), (0 : Int32), (0 : Int32), (0 : Int32), (0 : Int32), (0 : Int32), (0 : Int32), (0 : Int32), (0 : Int32), (0 : Int32), (0 : Int32), (0 : Int32), (0 : Int32), (0 : Int32), (0 : Int32), (0 : Int32), (0 : Int32), (0 : Int32), (0 : Int32), (0 : Int32)] := V2
  refine own_step (st2) ?_
  show own_Goes p.tables e below (T2.setTop (mkF m 9 #[.val (.int p0), .val (.int p1), .unset, .unset, .unset, .unset] [(.ref b2)])) _
  refine own_step (fun _ => XS.dup X2.here hx rfl (hb hby at_9) rfl rfl) ?_
  show own_Goes p.tables e below (T2.setTop (mkF m 10 #[.val (.int p0), .val (.int p1), .unset, .unset, .unset, .unset] [(.ref b2), (.ref b2)])) _
  refine own_step (fun _ => XS.iconst X2.here hx rfl (hb hby at_10)) ?_
  show own_Goes p.tables e below (T2.setTop (mkF m 11 #[.val (.int p0), .val (.int p1), .unset, .unset, .unset, .unset] [(.int (1 : Int32)), (.ref b2), (.ref b2)])) _
  refine own_step (fun _ => XS.bipush X2.here hx rfl (hb hby at_11)) ?_
  show own_Goes p.tables e below (T2.setTop (mkF m 13 #[.val (.int p0), .val (.int p1), .unset, .unset, .unset, .unset] [(.int (90 : Int32)), (.int (1 : Int32)), (.ref b2), (.ref b2)])) _
  obtain ⟨T3, h3, L3, X3, e3, N3, V3, W3, st3⟩ := own_stI X2 hx hZ e2 V2 (j := (1 : Int32)) 1 ⟨by decide, by decide⟩ (by decide) (by decide) (g := (mkF m 13 #[.val (.int p0), .val (.int p1), .unset, .unset, .unset, .unset] [(.int (90 : Int32)), (.int (1 : Int32)), (.ref b2), (.ref b2)])) rfl rfl (hb hby at_13)
  have N3 := N3 n0 N2 g_b2
  have K3 : Keep h0 h3 [] := K2.wr W3 (Or.inr sz_b2)
  have Z3 : n0 ≤ h3.size := Nat.le_trans Z0 K3.1
  have V3 : own_A Z h3 b2 k1 .int (32 : Int32) [(65 : Int32), (90 : Int32), (0 : Int32), (0 : Int32), (0 : Int32), (0 : Int32), (0 : Int32), (0 : Int32), (0 : Int32), (0 : Int32), (0 : Int32), (0 : Int32), (0 : Int32), (0 : Int32), (0 : Int32), (0 : Int32), (0 : Int32), (0 : Int32), (0 : Int32), (0 : Int32), (0 : Int32), (0 : Int32), (0 : Int32), (0 : Int32), (0 : Int32), (0 : Int32), (0 : Int32), (0 : Int32), (0 : Int32), (0 : Int32), (0 : Int32), (0 : Int32)] := V3
  refine own_step (st3) ?_
  show own_Goes p.tables e below (T3.setTop (mkF m 14 #[.val (.int p0), .val (.int p1), .unset, .unset, .unset, .unset] [(.ref b2)])) _
  refine own_step (fun _ => XS.dup X3.here hx rfl (hb hby at_14) rfl rfl) ?_
  show own_Goes p.tables e below (T3.setTop (mkF m 15 #[.val (.int p0), .val (.int p1), .unset, .unset, .unset, .unset] [(.ref b2), (.ref b2)])) _
  refine own_step (fun _ => XS.iconst X3.here hx rfl (hb hby at_15)) ?_
  show own_Goes p.tables e below (T3.setTop (mkF m 16 #[.val (.int p0), .val (.int p1), .unset, .unset, .unset, .unset] [(.int (2 : Int32)), (.ref b2), (.ref b2)])) _
  refine own_step (fun _ => XS.bipush X3.here hx rfl (hb hby at_16)) ?_
  show own_Goes p.tables e below (T3.setTop (mkF m 18 #[.val (.int p0), .val (.int p1), .unset, .unset, .unset, .unset] [(.int (95 : Int32)), (.int (2 : Int32)), (.ref b2), (.ref b2)])) _
  obtain ⟨T4, h4, L4, X4, e4, N4, V4, W4, st4⟩ := own_stI X3 hx hZ e3 V3 (j := (2 : Int32)) 2 ⟨by decide, by decide⟩ (by decide) (by decide) (g := (mkF m 18 #[.val (.int p0), .val (.int p1), .unset, .unset, .unset, .unset] [(.int (95 : Int32)), (.int (2 : Int32)), (.ref b2), (.ref b2)])) rfl rfl (hb hby at_18)
  have N4 := N4 n0 N3 g_b2
  have K4 : Keep h0 h4 [] := K3.wr W4 (Or.inr sz_b2)
  have Z4 : n0 ≤ h4.size := Nat.le_trans Z0 K4.1
  have V4 : own_A Z h4 b2 k1 .int (32 : Int32) [(65 : Int32), (90 : Int32), (95 : Int32), (0 : Int32), (0 : Int32), (0 : Int32), (0 : Int32), (0 : Int32), (0 : Int32), (0 : Int32), (0 : Int32), (0 : Int32), (0 : Int32), (0 : Int32), (0 : Int32), (0 : Int32), (0 : Int32), (0 : Int32), (0 : Int32), (0 : Int32), (0 : Int32), (0 : Int32), (0 : Int32), (0 : Int32), (0 : Int32), (0 : Int32), (0 : Int32), (0 : Int32), (0 : Int32), (0 : Int32), (0 : Int32), (0 : Int32)] := V4
  refine own_step (st4) ?_
  show own_Goes p.tables e below (T4.setTop (mkF m 19 #[.val (.int p0), .val (.int p1), .unset, .unset, .unset, .unset] [(.ref b2)])) _
  refine own_step (fun _ => XS.dup X4.here hx rfl (hb hby at_19) rfl rfl) ?_
  show own_Goes p.tables e below (T4.setTop (mkF m 20 #[.val (.int p0), .val (.int p1), .unset, .unset, .unset, .unset] [(.ref b2), (.ref b2)])) _
  refine own_step (fun _ => XS.iconst X4.here hx rfl (hb hby at_20)) ?_
  show own_Goes p.tables e below (T4.setTop (mkF m 21 #[.val (.int p0), .val (.int p1), .unset, .unset, .unset, .unset] [(.int (3 : Int32)), (.ref b2), (.ref b2)])) _
  refine own_step (fun _ => XS.bipush X4.here hx rfl (hb hby at_21)) ?_
  show own_Goes p.tables e below (T4.setTop (mkF m 23 #[.val (.int p0), .val (.int p1), .unset, .unset, .unset, .unset] [(.int (97 : Int32)), (.int (3 : Int32)), (.ref b2), (.ref b2)])) _
  obtain ⟨T5, h5, L5, X5, e5, N5, V5, W5, st5⟩ := own_stI X4 hx hZ e4 V4 (j := (3 : Int32)) 3 ⟨by decide, by decide⟩ (by decide) (by decide) (g := (mkF m 23 #[.val (.int p0), .val (.int p1), .unset, .unset, .unset, .unset] [(.int (97 : Int32)), (.int (3 : Int32)), (.ref b2), (.ref b2)])) rfl rfl (hb hby at_23)
  have N5 := N5 n0 N4 g_b2
  have K5 : Keep h0 h5 [] := K4.wr W5 (Or.inr sz_b2)
  have Z5 : n0 ≤ h5.size := Nat.le_trans Z0 K5.1
  have V5 : own_A Z h5 b2 k1 .int (32 : Int32) [(65 : Int32), (90 : Int32), (95 : Int32), (97 : Int32), (0 : Int32), (0 : Int32), (0 : Int32), (0 : Int32), (0 : Int32), (0 : Int32), (0 : Int32), (0 : Int32), (0 : Int32), (0 : Int32), (0 : Int32), (0 : Int32), (0 : Int32), (0 : Int32), (0 : Int32), (0 : Int32), (0 : Int32), (0 : Int32), (0 : Int32), (0 : Int32), (0 : Int32), (0 : Int32), (0 : Int32), (0 : Int32), (0 : Int32), (0 : Int32), (0 : Int32), (0 : Int32)] := V5
  refine own_step (st5) ?_
  show own_Goes p.tables e below (T5.setTop (mkF m 24 #[.val (.int p0), .val (.int p1), .unset, .unset, .unset, .unset] [(.ref b2)])) _
  refine own_step (fun _ => XS.dup X5.here hx rfl (hb hby at_24) rfl rfl) ?_
  show own_Goes p.tables e below (T5.setTop (mkF m 25 #[.val (.int p0), .val (.int p1), .unset, .unset, .unset, .unset] [(.ref b2), (.ref b2)])) _
  refine own_step (fun _ => XS.iconst X5.here hx rfl (hb hby at_25)) ?_
  show own_Goes p.tables e below (T5.setTop (mkF m 26 #[.val (.int p0), .val (.int p1), .unset, .unset, .unset, .unset] [(.int (4 : Int32)), (.ref b2), (.ref b2)])) _
  refine own_step (fun _ => XS.bipush X5.here hx rfl (hb hby at_26)) ?_
  show own_Goes p.tables e below (T5.setTop (mkF m 28 #[.val (.int p0), .val (.int p1), .unset, .unset, .unset, .unset] [(.int (122 : Int32)), (.int (4 : Int32)), (.ref b2), (.ref b2)])) _
  obtain ⟨T6, h6, L6, X6, e6, N6, V6, W6, st6⟩ := own_stI X5 hx hZ e5 V5 (j := (4 : Int32)) 4 ⟨by decide, by decide⟩ (by decide) (by decide) (g := (mkF m 28 #[.val (.int p0), .val (.int p1), .unset, .unset, .unset, .unset] [(.int (122 : Int32)), (.int (4 : Int32)), (.ref b2), (.ref b2)])) rfl rfl (hb hby at_28)
  have N6 := N6 n0 N5 g_b2
  have K6 : Keep h0 h6 [] := K5.wr W6 (Or.inr sz_b2)
  have Z6 : n0 ≤ h6.size := Nat.le_trans Z0 K6.1
  have V6 : own_A Z h6 b2 k1 .int (32 : Int32) [(65 : Int32), (90 : Int32), (95 : Int32), (97 : Int32), (122 : Int32), (0 : Int32), (0 : Int32), (0 : Int32), (0 : Int32), (0 : Int32), (0 : Int32), (0 : Int32), (0 : Int32), (0 : Int32), (0 : Int32), (0 : Int32), (0 : Int32), (0 : Int32), (0 : Int32), (0 : Int32), (0 : Int32), (0 : Int32), (0 : Int32), (0 : Int32), (0 : Int32), (0 : Int32), (0 : Int32), (0 : Int32), (0 : Int32), (0 : Int32), (0 : Int32), (0 : Int32)] := V6
  refine own_step (st6) ?_
  show own_Goes p.tables e below (T6.setTop (mkF m 29 #[.val (.int p0), .val (.int p1), .unset, .unset, .unset, .unset] [(.ref b2)])) _
  refine own_step (fun _ => XS.dup X6.here hx rfl (hb hby at_29) rfl rfl) ?_
  show own_Goes p.tables e below (T6.setTop (mkF m 30 #[.val (.int p0), .val (.int p1), .unset, .unset, .unset, .unset] [(.ref b2), (.ref b2)])) _
  refine own_step (fun _ => XS.iconst X6.here hx rfl (hb hby at_30)) ?_
  show own_Goes p.tables e below (T6.setTop (mkF m 31 #[.val (.int p0), .val (.int p1), .unset, .unset, .unset, .unset] [(.int (5 : Int32)), (.ref b2), (.ref b2)])) _
  refine own_step (fun _ => XS.sipush X6.here hx rfl (hb hby at_31)) ?_
  show own_Goes p.tables e below (T6.setTop (mkF m 34 #[.val (.int p0), .val (.int p1), .unset, .unset, .unset, .unset] [(.int (192 : Int32)), (.int (5 : Int32)), (.ref b2), (.ref b2)])) _
  obtain ⟨T7, h7, L7, X7, e7, N7, V7, W7, st7⟩ := own_stI X6 hx hZ e6 V6 (j := (5 : Int32)) 5 ⟨by decide, by decide⟩ (by decide) (by decide) (g := (mkF m 34 #[.val (.int p0), .val (.int p1), .unset, .unset, .unset, .unset] [(.int (192 : Int32)), (.int (5 : Int32)), (.ref b2), (.ref b2)])) rfl rfl (hb hby at_34)
  have N7 := N7 n0 N6 g_b2
  have K7 : Keep h0 h7 [] := K6.wr W7 (Or.inr sz_b2)
  have Z7 : n0 ≤ h7.size := Nat.le_trans Z0 K7.1
  have V7 : own_A Z h7 b2 k1 .int (32 : Int32) [(65 : Int32), (90 : Int32), (95 : Int32), (97 : Int32), (122 : Int32), (192 : Int32), (0 : Int32), (0 : Int32), (0 : Int32), (0 : Int32), (0 : Int32), (0 : Int32), (0 : Int32), (0 : Int32), (0 : Int32), (0 : Int32), (0 : Int32), (0 : Int32), (0 : Int32), (0 : Int32), (0 : Int32), (0 : Int32), (0 : Int32), (0 : Int32), (0 : Int32), (0 : Int32), (0 : Int32), (0 : Int32), (0 : Int32), (0 : Int32), (0 : Int32), (0 : Int32)] := V7
  refine own_step (st7) ?_
  show own_Goes p.tables e below (T7.setTop (mkF m 35 #[.val (.int p0), .val (.int p1), .unset, .unset, .unset, .unset] [(.ref b2)])) _
  refine own_step (fun _ => XS.dup X7.here hx rfl (hb hby at_35) rfl rfl) ?_
  show own_Goes p.tables e below (T7.setTop (mkF m 36 #[.val (.int p0), .val (.int p1), .unset, .unset, .unset, .unset] [(.ref b2), (.ref b2)])) _
  refine own_step (fun _ => XS.bipush X7.here hx rfl (hb hby at_36)) ?_
  show own_Goes p.tables e below (T7.setTop (mkF m 38 #[.val (.int p0), .val (.int p1), .unset, .unset, .unset, .unset] [(.int (6 : Int32)), (.ref b2), (.ref b2)])) _
  refine own_step (fun _ => XS.sipush X7.here hx rfl (hb hby at_38)) ?_
  show own_Goes p.tables e below (T7.setTop (mkF m 41 #[.val (.int p0), .val (.int p1), .unset, .unset, .unset, .unset] [(.int (214 : Int32)), (.int (6 : Int32)), (.ref b2), (.ref b2)])) _
  obtain ⟨T8, h8, L8, X8, e8, N8, V8, W8, st8⟩ := own_stI X7 hx hZ e7 V7 (j := (6 : Int32)) 6 ⟨by decide, by decide⟩ (by decide) (by decide) (g := (mkF m 41 #[.val (.int p0), .val (.int p1), .unset, .unset, .unset, .unset] [(.int (214 : Int32)), (.int (6 : Int32)), (.ref b2), (.ref b2)])) rfl rfl (hb hby at_41)
  have N8 := N8 n0 N7 g_b2
  have K8 : Keep h0 h8 [] := K7.wr W8 (Or.inr sz_b2)
  have Z8 : n0 ≤ h8.size := Nat.le_trans Z0 K8.1
  have V8 : own_A Z h8 b2 k1 .int (32 : Int32) [(65 : Int32), (90 : Int32), (95 : Int32), (97 : Int32), (122 : Int32), (192 : Int32), (214 : Int32), (0 : Int32), (0 : Int32), (0 : Int32), (0 : Int32), (0 : Int32), (0 : Int32), (0 : Int32), (0 : Int32), (0 : Int32), (0 : Int32), (0 : Int32), (0 : Int32), (0 : Int32), (0 : Int32), (0 : Int32), (0 : Int32), (0 : Int32), (0 : Int32), (0 : Int32), (0 : Int32), (0 : Int32), (0 : Int32), (0 : Int32), (0 : Int32), (0 : Int32)] := V8
  refine own_step (st8) ?_
  show own_Goes p.tables e below (T8.setTop (mkF m 42 #[.val (.int p0), .val (.int p1), .unset, .unset, .unset, .unset] [(.ref b2)])) _
  refine own_step (fun _ => XS.dup X8.here hx rfl (hb hby at_42) rfl rfl) ?_
  show own_Goes p.tables e below (T8.setTop (mkF m 43 #[.val (.int p0), .val (.int p1), .unset, .unset, .unset, .unset] [(.ref b2), (.ref b2)])) _
  refine own_step (fun _ => XS.bipush X8.here hx rfl (hb hby at_43)) ?_
  show own_Goes p.tables e below (T8.setTop (mkF m 45 #[.val (.int p0), .val (.int p1), .unset, .unset, .unset, .unset] [(.int (7 : Int32)), (.ref b2), (.ref b2)])) _
  refine own_step (fun _ => XS.sipush X8.here hx rfl (hb hby at_45)) ?_
  show own_Goes p.tables e below (T8.setTop (mkF m 48 #[.val (.int p0), .val (.int p1), .unset, .unset, .unset, .unset] [(.int (216 : Int32)), (.int (7 : Int32)), (.ref b2), (.ref b2)])) _
  obtain ⟨T9, h9, L9, X9, e9, N9, V9, W9, st9⟩ := own_stI X8 hx hZ e8 V8 (j := (7 : Int32)) 7 ⟨by decide, by decide⟩ (by decide) (by decide) (g := (mkF m 48 #[.val (.int p0), .val (.int p1), .unset, .unset, .unset, .unset] [(.int (216 : Int32)), (.int (7 : Int32)), (.ref b2), (.ref b2)])) rfl rfl (hb hby at_48)
  have N9 := N9 n0 N8 g_b2
  have K9 : Keep h0 h9 [] := K8.wr W9 (Or.inr sz_b2)
  have Z9 : n0 ≤ h9.size := Nat.le_trans Z0 K9.1
  have V9 : own_A Z h9 b2 k1 .int (32 : Int32) [(65 : Int32), (90 : Int32), (95 : Int32), (97 : Int32), (122 : Int32), (192 : Int32), (214 : Int32), (216 : Int32), (0 : Int32), (0 : Int32), (0 : Int32), (0 : Int32), (0 : Int32), (0 : Int32), (0 : Int32), (0 : Int32), (0 : Int32), (0 : Int32), (0 : Int32), (0 : Int32), (0 : Int32), (0 : Int32), (0 : Int32), (0 : Int32), (0 : Int32), (0 : Int32), (0 : Int32), (0 : Int32), (0 : Int32), (0 : Int32), (0 : Int32), (0 : Int32)] := V9
  refine own_step (st9) ?_
  show own_Goes p.tables e below (T9.setTop (mkF m 49 #[.val (.int p0), .val (.int p1), .unset, .unset, .unset, .unset] [(.ref b2)])) _
  refine own_step (fun _ => XS.dup X9.here hx rfl (hb hby at_49) rfl rfl) ?_
  show own_Goes p.tables e below (T9.setTop (mkF m 50 #[.val (.int p0), .val (.int p1), .unset, .unset, .unset, .unset] [(.ref b2), (.ref b2)])) _
  refine own_step (fun _ => XS.bipush X9.here hx rfl (hb hby at_50)) ?_
  show own_Goes p.tables e below (T9.setTop (mkF m 52 #[.val (.int p0), .val (.int p1), .unset, .unset, .unset, .unset] [(.int (8 : Int32)), (.ref b2), (.ref b2)])) _
  refine own_step (fun _ => XS.sipush X9.here hx rfl (hb hby at_52)) ?_
  show own_Goes p.tables e below (T9.setTop (mkF m 55 #[.val (.int p0), .val (.int p1), .unset, .unset, .unset, .unset] [(.int (246 : Int32)), (.int (8 : Int32)), (.ref b2), (.ref b2)])) _
  obtain ⟨T10, h10, L10, X10, e10, N10, V10, W10, st10⟩ := own_stI X9 hx hZ e9 V9 (j := (8 : Int32)) 8 ⟨by decide, by decide⟩ (by decide) (by decide) (g := (mkF m 55 #[.val (.int p0), .val (.int p1), .unset, .unset, .unset, .unset] [(.int (246 : Int32)), (.int (8 : Int32)), (.ref b2), (.ref b2)])) rfl rfl (hb hby at_55)
  have N10 := N10 n0 N9 g_b2
  have K10 : Keep h0 h10 [] := K9.wr W10 (Or.inr sz_b2)
  have Z10 : n0 ≤ h10.size := Nat.le_trans Z0 K10.1
  have V10 : own_A Z h10 b2 k1 .int (32 : Int32) [(65 : Int32), (90 : Int32), (95 : Int32), (97 : Int32), (122 : Int32), (192 : Int32), (214 : Int32), (216 : Int32), (246 : Int32), (0 : Int32), (0 : Int32), (0 : Int32), (0 : Int32), (0 : Int32), (0 : Int32), (0 : Int32), (0 : Int32), (0 : Int32), (0 : Int32), (0 : Int32), (0 : Int32), (0 : Int32), (0 : Int32), (0 : Int32), (0 : Int32), (0 : Int32), (0 : Int32), (0 : Int32), (0 : Int32), (0 : Int32), (0 : Int32), (0 : Int32)] := V10
  refine own_step (st10) ?_
  show own_Goes p.tables e below (T10.setTop (mkF m 56 #[.val (.int p0), .val (.int p1), .unset, .unset, .unset, .unset] [(.ref b2)])) _
  refine own_step (fun _ => XS.dup X10.here hx rfl (hb hby at_56) rfl rfl) ?_
  show own_Goes p.tables e below (T10.setTop (mkF m 57 #[.val (.int p0), .val (.int p1), .unset, .unset, .unset, .unset] [(.ref b2), (.ref b2)])) _
  refine own_step (fun _ => XS.bipush X10.here hx rfl (hb hby at_57)) ?_
  show own_Goes p.tables e below (T10.setTop (mkF m 59 #[.val (.int p0), .val (.int p1), .unset, .unset, .unset, .unset] [(.int (9 : Int32)), (.ref b2), (.ref b2)])) _
  refine own_step (fun _ => XS.sipush X10.here hx rfl (hb hby at_59)) ?_
  show own_Goes p.tables e below (T10.setTop (mkF m 62 #[.val (.int p0), .val (.int p1), .unset, .unset, .unset, .unset] [(.int (248 : Int32)), (.int (9 : Int32)), (.ref b2), (.ref b2)])) _
  obtain ⟨T11, h11, L11, X11, e11, N11, V11, W11, st11⟩ := own_stI X10 hx hZ e10 V10 (j := (9 : Int32)) 9 ⟨by decide, by decide⟩ (by decide) (by decide) (g := (mkF m 62 #[.val (.int p0), .val (.int p1), .unset, .unset, .unset, .unset] [(.int (248 : Int32)), (.int (9 : Int32)), (.ref b2), (.ref b2)])) rfl rfl (hb hby at_62)
  have N11 := N11 n0 N10 g_b2
  have K11 : Keep h0 h11 [] := K10.wr W11 (Or.inr sz_b2)
  have Z11 : n0 ≤ h11.size := Nat.le_trans Z0 K11.1
  have V11 : own_A Z h11 b2 k1 .int (32 : Int32) [(65 : Int32), (90 : Int32), (95 : Int32), (97 : Int32), (122 : Int32), (192 : Int32), (214 : Int32), (216 : Int32), (246 : Int32), (248 : Int32), (0 : Int32), (0 : Int32), (0 : Int32), (0 : Int32), (0 : Int32), (0 : Int32), (0 : Int32), (0 : Int32), (0 : Int32), (0 : Int32), (0 : Int32), (0 : Int32), (0 : Int32), (0 : Int32), (0 : Int32), (0 : Int32), (0 : Int32), (0 : Int32), (0 : Int32), (0 : Int32), (0 : Int32), (0 : Int32)] := V11
  refine own_step (st11) ?_
  show own_Goes p.tables e below (T11.setTop (mkF m 63 #[.val (.int p0), .val (.int p1), .unset, .unset, .unset, .unset] [(.ref b2)])) _
  refine own_step (fun _ => XS.dup X11.here hx rfl (hb hby at_63) rfl rfl) ?_
  show own_Goes p.tables e below (T11.setTop (mkF m 64 #[.val (.int p0), .val (.int p1), .unset, .unset, .unset, .unset] [(.ref b2), (.ref b2)])) _
  refine own_step (fun _ => XS.bipush X11.here hx rfl (hb hby at_64)) ?_
  show own_Goes p.tables e below (T11.setTop (mkF m 66 #[.val (.int p0), .val (.int p1), .unset, .unset, .unset, .unset] [(.int (10 : Int32)), (.ref b2), (.ref b2)])) _
  refine own_step (fun _ => XS.sipush X11.here hx rfl (hb hby at_66)) ?_
  show own_Goes p.tables e below (T11.setTop (mkF m 69 #[.val (.int p0), .val (.int p1), .unset, .unset, .unset, .unset] [(.int (767 : Int32)), (.int (10 : Int32)), (.ref b2), (.ref b2)])) _
  obtain ⟨T12, h12, L12, X12, e12, N12, V12, W12, st12⟩ := own_stI X11 hx hZ e11 V11 (j := (10 : Int32)) 10 ⟨by decide, by decide⟩ (by decide) (by decide) (g := (mkF m 69 #[.val (.int p0), .val (.int p1), .unset, .unset, .unset, .unset] [(.int (767 : Int32)), (.int (10 : Int32)), (.ref b2), (.ref b2)])) rfl rfl (hb hby at_69)
  have N12 := N12 n0 N11 g_b2
  have K12 : Keep h0 h12 [] := K11.wr W12 (Or.inr sz_b2)
  have Z12 : n0 ≤ h12.size := Nat.le_trans Z0 K12.1
  have V12 : own_A Z h12 b2 k1 .int (32 : Int32) [(65 : Int32), (90 : Int32), (95 : Int32), (97 : Int32), (122 : Int32), (192 : Int32), (214 : Int32), (216 : Int32), (246 : Int32), (248 : Int32), (767 : Int32), (0 : Int32), (0 : Int32), (0 : Int32), (0 : Int32), (0 : Int32), (0 : Int32), (0 : Int32), (0 : Int32), (0 : Int32), (0 : Int32), (0 : Int32), (0 : Int32), (0 : Int32), (0 : Int32), (0 : Int32), (0 : Int32), (0 : Int32), (0 : Int32), (0 : Int32), (0 : Int32), (0 : Int32)] := V12
  refine own_step (st12) ?_
  show own_Goes p.tables e below (T12.setTop (mkF m 70 #[.val (.int p0), .val (.int p1), .unset, .unset, .unset, .unset] [(.ref b2)])) _
  refine own_step (fun _ => XS.dup X12.here hx rfl (hb hby at_70) rfl rfl) ?_
  show own_Goes p.tables e below (T12.setTop (mkF m 71 #[.val (.int p0), .val (.int p1), .unset, .unset, .unset, .unset] [(.ref b2), (.ref b2)])) _
  refine own_step (fun _ => XS.bipush X12.here hx rfl (hb hby at_71)) ?_
  show own_Goes p.tables e below (T12.setTop (mkF m 73 #[.val (.int p0), .val (.int p1), .unset, .unset, .unset, .unset] [(.int (11 : Int32)), (.ref b2), (.ref b2)])) _
  refine own_step (fun _ => XS.sipush X12.here hx rfl (hb hby at_73)) ?_
  show own_Goes p.tables e below (T12.setTop (mkF m 76 #[.val (.int p0), .val (.int p1), .unset, .unset, .unset, .unset] [(.int (880 : Int32)), (.int (11 : Int32)), (.ref b2), (.ref b2)])) _
  obtain ⟨T13, h13, L13, X13, e13, N13, V13, W13, st13⟩ := own_stI X12 hx hZ e12 V12 (j := (11 : Int32)) 11 ⟨by decide, by decide⟩ (by decide) (by decide) (g := (mkF m 76 #[.val (.int p0), .val (.int p1), .unset, .unset, .unset, .unset] [(.int (880 : Int32)), (.int (11 : Int32)), (.ref b2), (.ref b2)])) rfl rfl (hb hby at_76)
  have N13 := N13 n0 N12 g_b2
  have K13 : Keep h0 h13 [] := K12.wr W13 (Or.inr sz_b2)
  have Z13 : n0 ≤ h13.size := Nat.le_trans Z0 K13.1
  have V13 : own_A Z h13 b2 k1 .int (32 : Int32) [(65 : Int32), (90 : Int32), (95 : Int32), (97 : Int32), (122 : Int32), (192 : Int32), (214 : Int32), (216 : Int32), (246 : Int32), (248 : Int32), (767 : Int32), (880 : Int32), (0 : Int32), (0 : Int32), (0 : Int32), (0 : Int32), (0 : Int32), (0 : Int32), (0 : Int32), (0 : Int32), (0 : Int32), (0 : Int32), (0 : Int32), (0 : Int32), (0 : Int32), (0 : Int32), (0 : Int32), (0 : Int32), (0 : Int32), (0 : Int32), (0 : Int32), (0 : Int32)] := V13
  refine own_step (st13) ?_
  show own_Goes p.tables e below (T13.setTop (mkF m 77 #[.val (.int p0), .val (.int p1), .unset, .unset, .unset, .unset] [(.ref b2)])) _
  refine own_step (fun _ => XS.dup X13.here hx rfl (hb hby at_77) rfl rfl) ?_
  show own_Goes p.tables e below (T13.setTop (mkF m 78 #[.val (.int p0), .val (.int p1), .unset, .unset, .unset, .unset] [(.ref b2), (.ref b2)])) _
  refine own_step (fun _ => XS.bipush X13.here hx rfl (hb hby at_78)) ?_
  show own_Goes p.tables e below (T13.setTop (mkF m 80 #[.val (.int p0), .val (.int p1), .unset, .unset, .unset, .unset] [(.int (12 : Int32)), (.ref b2), (.ref b2)])) _
  refine own_step (fun _ => XS.sipush X13.here hx rfl (hb hby at_80)) ?_
  show own_Goes p.tables e below (T13.setTop (mkF m 83 #[.val (.int p0), .val (.int p1), .unset, .unset, .unset, .unset] [(.int (893 : Int32)), (.int (12 : Int32)), (.ref b2), (.ref b2)])) _
  obtain ⟨T14, h14, L14, X14, e14, N14, V14, W14, st14⟩ := own_stI X13 hx hZ e13 V13 (j := (12 : Int32)) 12 ⟨by decide, by decide⟩ (by decide) (by decide) (g := (mkF m 83 #[.val (.int p0), .val (.int p1), .unset, .unset, .unset, .unset] [(.int (893 : Int32)), (.int (12 : Int32)), (.ref b2), (.ref b2)])) rfl rfl (hb hby at_83)
  have N14 := N14 n0 N13 g_b2
  have K14 : Keep h0 h14 [] := K13.wr W14 (Or.inr sz_b2)
  have Z14 : n0 ≤ h14.size := Nat.le_trans Z0 K14.1
  have V14 : own_A Z h14 b2 k1 .int (32 : Int32) [(65 : Int32), (90 : Int32), (95 : Int32), (97 : Int32), (122 : Int32), (192 : Int32), (214 : Int32), (216 : Int32), (246 : Int32), (248 : Int32), (767 : Int32), (880 : Int32), (893 : Int32), (0 : Int32), (0 : Int32), (0 : Int32), (0 : Int32), (0 : Int32), (0 : Int32), (0 : Int32), (0 : Int32), (0 : Int32), (0 : Int32), (0 : Int32), (0 : Int32), (0 : Int32), (0 : Int32), (0 : Int32), (0 : Int32), (0 : Int32), (0 : Int32), (0 : Int32)] := V14
  refine own_step (st14) ?_
  show own_Goes p.tables e below (T14.setTop (mkF m 84 #[.val (.int p0), .val (.int p1), .unset, .unset, .unset, .unset] [(.ref b2)])) _
  refine own_step (fun _ => XS.dup X14.here hx rfl (hb hby at_84) rfl rfl) ?_
  show own_Goes p.tables e below (T14.setTop (mkF m 85 #[.val (.int p0), .val (.int p1), .unset, .unset, .unset, .unset] [(.ref b2), (.ref b2)])) _
  refine own_step (fun _ => XS.bipush X14.here hx rfl (hb hby at_85)) ?_
  show own_Goes p.tables e below (T14.setTop (mkF m 87 #[.val (.int p0), .val (.int p1), .unset, .unset, .unset, .unset] [(.int (13 : Int32)), (.ref b2), (.ref b2)])) _
  refine own_step (fun _ => XS.sipush X14.here hx rfl (hb hby at_87)) ?_
  show own_Goes p.tables e below (T14.setTop (mkF m 90 #[.val (.int p0), .val (.int p1), .unset, .unset, .unset, .unset] [(.int (895 : Int32)), (.int (13 : Int32)), (.ref b2), (.ref b2)])) _
  obtain ⟨T15, h15, L15, X15, e15, N15, V15, W15, st15⟩ := own_stI X14 hx hZ e14 V14 (j := (13 : Int32)) 13 ⟨by decide, by decide⟩ (by decide) (by decide) (g := (mkF m 90 #[.val (.int p0), .val (.int p1), .unset, .unset, .unset, .unset] [(.int (895 : Int32)), (.int (13 : Int32)), (.ref b2), (.ref b2)])) rfl rfl (hb hby at_90)
  have N15 := N15 n0 N14 g_b2
  have K15 : Keep h0 h15 [] := K14.wr W15 (Or.inr sz_b2)
  have Z15 : n0 ≤ h15.size := Nat.le_trans Z0 K15.1
  have V15 : own_A Z h15 b2 k1 .int (32 : Int32) [(65 : Int32), (90 : Int32), (95 : Int32), (97 : Int32), (122 : Int32), (192 : Int32), (214 : Int32), (216 : Int32), (246 : Int32), (248 : Int32), (767 : Int32), (880 : Int32), (893 : Int32), (895 : Int32), (0 : Int32), (0 : Int32), (0 : Int32), (0 : Int32), (0 : Int32), (0 : Int32), (0 : Int32), (0 : Int32), (0 : Int32), (0 : Int32), (0 : Int32), (0 : Int32), (0 : Int32), (0 : Int32), (0 : Int32), (0 : Int32), (0 : Int32), (0 : Int32)] := V15
  refine own_step (st15) ?_
  show own_Goes p.tables e below (T15.setTop (mkF m 91 #[.val (.int p0), .val (.int p1), .unset, .unset, .unset, .unset] [(.ref b2)])) _
  refine own_step (fun _ => XS.dup X15.here hx rfl (hb hby at_91) rfl rfl) ?_
  show own_Goes p.tables e below (T15.setTop (mkF m 92 #[.val (.int p0), .val (.int p1), .unset, .unset, .unset, .unset] [(.ref b2), (.ref b2)])) _
  refine own_step (fun _ => XS.bipush X15.here hx rfl (hb hby at_92)) ?_
  show own_Goes p.tables e below (T15.setTop (mkF m 94 #[.val (.int p0), .val (.int p1), .unset, .unset, .unset, .unset] [(.int (14 : Int32)), (.ref b2), (.ref b2)])) _
  refine own_step (fun _ => XS.sipush X15.here hx rfl (hb hby at_94)) ?_
  show own_Goes p.tables e below (T15.setTop (mkF m 97 #[.val (.int p0), .val (.int p1), .unset, .unset, .unset, .unset] [(.int (8191 : Int32)), (.int (14 : Int32)), (.ref b2), (.ref b2)])) _
  obtain ⟨T16, h16, L16, X16, e16, N16, V16, W16, st16⟩ := own_stI X15 hx hZ e15 V15 (j := (14 : Int32)) 14 ⟨by decide, by decide⟩ (by decide) (by decide) (g := (mkF m 97 #[.val (.int p0), .val (.int p1), .unset, .unset, .unset, .unset] [(.int (8191 : Int32)), (.int (14 : Int32)), (.ref b2), (.ref b2)])) rfl rfl (hb hby at_97)
  have N16 := N16 n0 N15 g_b2
  have K16 : Keep h0 h16 [] := K15.wr W16 (Or.inr sz_b2)
  have Z16 : n0 ≤ h16.size := Nat.le_trans Z0 K16.1
  have V16 : own_A Z h16 b2 k1 .int (32 : Int32) [(65 : Int32), (90 : Int32), (95 : Int32), (97 : Int32), (122 : Int32), (192 : Int32), (214 : Int32), (216 : Int32), (246 : Int32), (248 : Int32), (767 : Int32), (880 : Int32), (893 : Int32), (895 : Int32), (8191 : Int32), (0 : Int32), (0 : Int32), (0 : Int32), (0 : Int32), (0 : Int32), (0 : Int32), (0 : Int32), (0 : Int32), (0 : Int32), (0 : Int32), (0 : Int32), (0 : Int32), (0 : Int32), (0 : Int32), (0 : Int32), (0 : Int32), (0 : Int32)] := V16
  refine own_step (st16) ?_
  show own_Goes p.tables e below (T16.setTop (mkF m 98 #[.val (.int p0), .val (.int p1), .unset, .unset, .unset, .unset] [(.ref b2)])) _
  refine own_step (fun _ => XS.dup X16.here hx rfl (hb hby at_98) rfl rfl) ?_
  show own_Goes p.tables e below (T16.setTop (mkF m 99 #[.val (.int p0), .val (.int p1), .unset, .unset, .unset, .unset] [(.ref b2), (.ref b2)])) _
  refine own_step (fun _ => XS.bipush X16.here hx rfl (hb hby at_99)) ?_
  show own_Goes p.tables e below (T16.setTop (mkF m 101 #[.val (.int p0), .val (.int p1), .unset, .unset, .unset, .unset] [(.int (15 : Int32)), (.ref b2), (.ref b2)])) _
  refine own_step (fun _ => XS.sipush X16.here hx rfl (hb hby at_101)) ?_
  show own_Goes p.tables e below (T16.setTop (mkF m 104 #[.val (.int p0), .val (.int p1), .unset, .unset, .unset, .unset] [(.int (8204 : Int32)), (.int (15 : Int32)), (.ref b2), (.ref b2)])) _
  obtain ⟨T17, h17, L17, X17, e17, N17, V17, W17, st17⟩ := own_stI X16 hx hZ e16 V16 (j := (15 : Int32)) 15 ⟨by decide, by decide⟩ (by decide) (by decide) (g := (mkF m 104 #[.val (.int p0), .val (.int p1), .unset, .unset, .unset, .unset] [(.int (8204 : Int32)), (.int (15 : Int32)), (.ref b2), (.ref b2)])) rfl rfl (hb hby at_104)
  have N17 := N17 n0 N16 g_b2
  have K17 : Keep h0 h17 [] := K16.wr W17 (Or.inr sz_b2)
  have Z17 : n0 ≤ h17.size := Nat.le_trans Z0 K17.1
  have V17 : own_A Z h17 b2 k1 .int (32 : Int32) [(65 : Int32), (90 : Int32), (95 : Int32), (97 : Int32), (122 : Int32), (192 : Int32), (214 : Int32), (216 : Int32), (246 : Int32), (248 : Int32), (767 : Int32), (880 : Int32), (893 : Int32), (895 : Int32), (8191 : Int32), (8204 : Int32), (0 : Int32), (0 : Int32), (0 : Int32), (0 : Int32), (0 : Int32), (0 : Int32), (0 : Int32), (0 : Int32), (0 : Int32), (0 : Int32), (0 : Int32), (0 : Int32), (0 : Int32), (0 : Int32), (0 : Int32), (0 : Int32)] := V17
  refine own_step (st17) ?_
  show own_Goes p.tables e below (T17.setTop (mkF m 105 #[.val (.int p0), .val (.int p1), .unset, .unset, .unset, .unset] [(.ref b2)])) _
  refine own_step (fun _ => XS.dup X17.here hx rfl (hb hby at_105) rfl rfl) ?_
  show own_Goes p.tables e below (T17.setTop (mkF m 106 #[.val (.int p0), .val (.int p1), .unset, .unset, .unset, .unset] [(.ref b2), (.ref b2)])) _
  refine own_step (fun _ => XS.bipush X17.here hx rfl (hb hby at_106)) ?_
  show own_Goes p.tables e below (T17.setTop (mkF m 108 #[.val (.int p0), .val (.int p1), .unset, .unset, .unset, .unset] [(.int (16 : Int32)), (.ref b2), (.ref b2)])) _
  refine own_step (fun _ => XS.sipush X17.here hx rfl (hb hby at_108)) ?_
  show own_Goes p.tables e below (T17.setTop (mkF m 111 #[.val (.int p0), .val (.int p1), .unset, .unset, .unset, .unset] [(.int (8205 : Int32)), (.int (16 : Int32)), (.ref b2), (.ref b2)])) _
  obtain ⟨T18, h18, L18, X18, e18, N18, V18, W18, st18⟩ := own_stI X17 hx hZ e17 V17 (j := (16 : Int32)) 16 ⟨by decide, by decide⟩ (by decide) (by decide) (g := (mkF m 111 #[.val (.int p0), .val (.int p1), .unset, .unset, .unset, .unset] [(.int (8205 : Int32)), (.int (16 : Int32)), (.ref b2), (.ref b2)])) rfl rfl (hb hby at_111)
  have N18 := N18 n0 N17 g_b2
  have K18 : Keep h0 h18 [] := K17.wr W18 (Or.inr sz_b2)
  have Z18 : n0 ≤ h18.size := Nat.le_trans Z0 K18.1
  have V18 : own_A Z h18 b2 k1 .int (32 : Int32) [(65 : Int32), (90 : Int32), (95 : Int32), (97 : Int32), (122 : Int32), (192 : Int32), (214 : Int32), (216 : Int32), (246 : Int32), (248 : Int32), (767 : Int32), (880 : Int32), (893 : Int32), (895 : Int32), (8191 : Int32), (8204 : Int32), (8205 : Int32), (0 : Int32), (0 : Int32), (0 : Int32), (0 : Int32), (0 : Int32), (0 : Int32), (0 : Int32), (0 : Int32), (0 : Int32), (0 : Int32), (0 : Int32), (0 : Int32), (0 : Int32), (0 : Int32), (0 : Int32)] := V18
  refine own_step (st18) ?_
  show own_Goes p.tables e below (T18.setTop (mkF m 112 #[.val (.int p0), .val (.int p1), .unset, .unset, .unset, .unset] [(.ref b2)])) _
  refine own_step (fun _ => XS.dup X18.here hx rfl (hb hby at_112) rfl rfl) ?_
  show own_Goes p.tables e below (T18.setTop (mkF m 113 #[.val (.int p0), .val (.int p1), .unset, .unset, .unset, .unset] [(.ref b2), (.ref b2)])) _
  refine own_step (fun _ => XS.bipush X18.here hx rfl (hb hby at_113)) ?_
  show own_Goes p.tables e below (T18.setTop (mkF m 115 #[.val (.int p0), .val (.int p1), .unset, .unset, .unset, .unset] [(.int (17 : Int32)), (.ref b2), (.ref b2)])) _
  refine own_step (fun _ => XS.sipush X18.here hx rfl (hb hby at_115)) ?_
  show own_Goes p.tables e below (T18.setTop (mkF m 118 #[.val (.int p0), .val (.int p1), .unset, .unset, .unset, .unset] [(.int (8304 : Int32)), (.int (17 : Int32)), (.ref b2), (.ref b2)])) _
  obtain ⟨T19, h19, L19, X19, e19, N19, V19, W19, st19⟩ := own_stI X18 hx hZ e18 V18 (j := (17 : Int32)) 17 ⟨by decide, by decide⟩ (by decide) (by decide) (g := (mkF m 118 #[.val (.int p0), .val (.int p1), .unset, .unset, .unset, .unset] [(.int (8304 : Int32)), (.int (17 : Int32)), (.ref b2), (.ref b2)])) rfl rfl (hb hby at_118)
  have N19 := N19 n0 N18 g_b2
  have K19 : Keep h0 h19 [] := K18.wr W19 (Or.inr sz_b2)
  have Z19 : n0 ≤ h19.size := Nat.le_trans Z0 K19.1
  have V19 : own_A Z h19 b2 k1 .int (32 : Int32) [(65 : Int32), (90 : Int32), (95 : Int32), (97 : Int32), (122 : Int32), (192 : Int32), (214 : Int32), (216 : Int32), (246 : Int32), (248 : Int32), (767 : Int32), (880 : Int32), (893 : Int32), (895 : Int32), (8191 : Int32), (8204 : Int32), (8205 : Int32), (8304 : Int32), (0 : Int32), (0 : Int32), (0 : Int32), (0 : Int32), (0 : Int32), (0 : Int32), (0 : Int32), (0 : Int32), (0 : Int32), (0 : Int32), (0 : Int32), (0 : Int32), (0 : Int32), (0 : Int32)] := V19
  refine own_step (st19) ?_
  show own_Goes p.tables e below (T19.setTop (mkF m 119 #[.val (.int p0), .val (.int p1), .unset, .unset, .unset, .unset] [(.ref b2)])) _
  refine own_step (fun _ => XS.dup X19.here hx rfl (hb hby at_119) rfl rfl) ?_
  show own_Goes p.tables e below (T19.setTop (mkF m 120 #[.val (.int p0), .val (.int p1), .unset, .unset, .unset, .unset] [(.ref b2), (.ref b2)])) _
  refine own_step (fun _ => XS.bipush X19.here hx rfl (hb hby at_120)) ?_
  show own_Goes p.tables e below (T19.setTop (mkF m 122 #[.val (.int p0), .val (.int p1), .unset, .unset, .unset, .unset] [(.int (18 : Int32)), (.ref b2), (.ref b2)])) _
  refine own_step (fun _ => XS.sipush X19.here hx rfl (hb hby at_122)) ?_
  show own_Goes p.tables e below (T19.setTop (mkF m 125 #[.val (.int p0), .val (.int p1), .unset, .unset, .unset, .unset] [(.int (8591 : Int32)), (.int (18 : Int32)), (.ref b2), (.ref b2)])) _
  obtain ⟨T20, h20, L20, X20, e20, N20, V20, W20, st20⟩ := own_stI X19 hx hZ e19 V19 (j := (18 : Int32)) 18 ⟨by decide, by decide⟩ (by decide) (by decide) (g := (mkF m 125 #[.val (.int p0), .val (.int p1), .unset, .unset, .unset, .unset] [(.int (8591 : Int32)), (.int (18 : Int32)), (.ref b2), (.ref b2)])) rfl rfl (hb hby at_125)
  have N20 := N20 n0 N19 g_b2
  have K20 : Keep h0 h20 [] := K19.wr W20 (Or.inr sz_b2)
  have Z20 : n0 ≤ h20.size := Nat.le_trans Z0 K20.1
  have V20 : own_A Z h20 b2 k1 .int (32 : Int32) [(65 : Int32), (90 : Int32), (95 : Int32), (97 : Int32), (122 : Int32), (192 : Int32), (214 : Int32), (216 : Int32), (246 : Int32), (248 : Int32), (767 : Int32), (880 : Int32), (893 : Int32), (895 : Int32), (8191 : Int32), (8204 : Int32), (8205 : Int32), (8304 : Int32), (8591 : Int32), (0 : Int32), (0 : Int32), (0 : Int32), (0 : Int32), (0 : Int32), (0 : Int32), (0 : Int32), (0 : Int32), (0 : Int32), (0 : Int32), (0 : Int32), (0 : Int32), (0 : Int32)] := V20
  refine own_step (st20) ?_
  show own_Goes p.tables e below (T20.setTop (mkF m 126 #[.val (.int p0), .val (.int p1), .unset, .unset, .unset, .unset] [(.ref b2)])) _
  refine own_step (fun _ => XS.dup X20.here hx rfl (hb hby at_126) rfl rfl) ?_
  show own_Goes p.tables e below (T20.setTop (mkF m 127 #[.val (.int p0), .val (.int p1), .unset, .unset, .unset, .unset] [(.ref b2), (.ref b2)])) _
  refine own_step (fun _ => XS.bipush X20.here hx rfl (hb hby at_127)) ?_
  show own_Goes p.tables e below (T20.setTop (mkF m 129 #[.val (.int p0), .val (.int p1), .unset, .unset, .unset, .unset] [(.int (19 : Int32)), (.ref b2), (.ref b2)])) _
  refine own_step (fun _ => XS.sipush X20.here hx rfl (hb hby at_129)) ?_
  show own_Goes p.tables e below (T20.setTop (mkF m 132 #[.val (.int p0), .val (.int p1), .unset, .unset, .unset, .unset] [(.int (11264 : Int32)), (.int (19 : Int32)), (.ref b2), (.ref b2)])) _
  obtain ⟨T21, h21, L21, X21, e21, N21, V21, W21, st21⟩ := own_stI X20 hx hZ e20 V20 (j := (19 : Int32)) 19 ⟨by decide, by decide⟩ (by decide) (by decide) (g := (mkF m 132 #[.val (.int p0), .val (.int p1), .unset, .unset, .unset, .unset] [(.int (11264 : Int32)), (.int (19 : Int32)), (.ref b2), (.ref b2)])) rfl rfl (hb hby at_132)
  have N21 := N21 n0 N20 g_b2
  have K21 : Keep h0 h21 [] := K20.wr W21 (Or.inr sz_b2)
  have Z21 : n0 ≤ h21.size := Nat.le_trans Z0 K21.1
  have V21 : own_A Z h21 b2 k1 .int (32 : Int32) [(65 : Int32), (90 : Int32), (95 : Int32), (97 : Int32), (122 : Int32), (192 : Int32), (214 : Int32), (216 : Int32), (246 : Int32), (248 : Int32), (767 : Int32), (880 : Int32), (893 : Int32), (895 : Int32), (8191 : Int32), (8204 : Int32), (8205 : Int32), (8304 : Int32), (8591 : Int32), (11264 : Int32), (0 : Int32), (0 : Int32), (0 : Int32), (0 : Int32), (0 : Int32), (0 : Int32), (0 : Int32), (0 : Int32), (0 : Int32), (0 : Int32), (0 : Int32), (0 : Int32)] := V21
  refine own_step (st21) ?_
  show own_Goes p.tables e below (T21.setTop (mkF m 133 #[.val (.int p0), .val (.int p1), .unset, .unset, .unset, .unset] [(.ref b2)])) _
  refine own_step (fun _ => XS.dup X21.here hx rfl (hb hby at_133) rfl rfl) ?_
  show own_Goes p.tables e below (T21.setTop (mkF m 134 #[.val (.int p0), .val (.int p1), .unset, .unset, .unset, .unset] [(.ref b2), (.ref b2)])) _
  refine own_step (fun _ => XS.bipush X21.here hx rfl (hb hby at_134)) ?_
  show own_Goes p.tables e below (T21.setTop (mkF m 136 #[.val (.int p0), .val (.int p1), .unset, .unset, .unset, .unset] [(.int (20 : Int32)), (.ref b2), (.ref b2)])) _
  refine own_step (fun _ => XS.sipush X21.here hx rfl (hb hby at_136)) ?_
  show own_Goes p.tables e below (T21.setTop (mkF m 139 #[.val (.int p0), .val (.int p1), .unset, .unset, .unset, .unset] [(.int (12271 : Int32)), (.int (20 : Int32)), (.ref b2), (.ref b2)])) _
  obtain ⟨T22, h22, L22, X22, e22, N22, V22, W22, st22⟩ := own_stI X21 hx hZ e21 V21 (j := (20 : Int32)) 20 ⟨by decide, by decide⟩ (by decide) (by decide) (g := (mkF m 139 #[.val (.int p0), .val (.int p1), .unset, .unset, .unset, .unset] [(.int (12271 : Int32)), (.int (20 : Int32)), (.ref b2), (.ref b2)])) rfl rfl (hb hby at_139)
  have N22 := N22 n0 N21 g_b2
  have K22 : Keep h0 h22 [] := K21.wr W22 (Or.inr sz_b2)
  have Z22 : n0 ≤ h22.size := Nat.le_trans Z0 K22.1
  have V22 : own_A Z h22 b2 k1 .int (32 : Int32) [(65 : Int32), (90 : Int32), (95 : Int32), (97 : Int32), (122 : Int32), (192 : Int32), (214 : Int32), (216 : Int32), (246 : Int32), (248 : Int32), (767 : Int32), (880 : Int32), (893 : Int32), (895 : Int32), (8191 : Int32), (8204 : Int32), (8205 : Int32), (8304 : Int32), (8591 : Int32), (11264 : Int32), (12271 : Int32), (0 : Int32), (0 : Int32), (0 : Int32), (0 : Int32), (0 : Int32), (0 : Int32), (0 : Int32), (0 : Int32), (0 : Int32), (0 : Int32), (0 : Int32)] := V22
  refine own_step (st22) ?_
  show own_Goes p.tables e below (T22.setTop (mkF m 140 #[.val (.int p0), .val (.int p1), .unset, .unset, .unset, .unset] [(.ref b2)])) _
  refine own_step (fun _ => XS.dup X22.here hx rfl (hb hby at_140) rfl rfl) ?_
  show own_Goes p.tables e below (T22.setTop (mkF m 141 #[.val (.int p0), .val (.int p1), .unset, .unset, .unset, .unset] [(.ref b2), (.ref b2)])) _
  refine own_step (fun _ => XS.bipush X22.here hx rfl (hb hby at_141)) ?_
  show own_Goes p.tables e below (T22.setTop (mkF m 143 #[.val (.int p0), .val (.int p1), .unset, .unset, .unset, .unset] [(.int (21 : Int32)), (.ref b2), (.ref b2)])) _
  refine own_step (fun _ => XS.sipush X22.here hx rfl (hb hby at_143)) ?_
  show own_Goes p.tables e below (T22.setTop (mkF m 146 #[.val (.int p0), .val (.int p1), .unset, .unset, .unset, .unset] [(.int (12289 : Int32)), (.int (21 : Int32)), (.ref b2), (.ref b2)])) _
  obtain ⟨T23, h23, L23, X23, e23, N23, V23, W23, st23⟩ := own_stI X22 hx hZ e22 V22 (j := (21 : Int32)) 21 ⟨by decide, by decide⟩ (by decide) (by decide) (g := (mkF m 146 #[.val (.int p0), .val (.int p1), .unset, .unset, .unset, .unset] [(.int (12289 : Int32)), (.int (21 : Int32)), (.ref b2), (.ref b2)])) rfl rfl (hb hby at_146)
  have N23 := N23 n0 N22 g_b2
  have K23 : Keep h0 h23 [] := K22.wr W23 (Or.inr sz_b2)
  have Z23 : n0 ≤ h23.size := Nat.le_trans Z0 K23.1
  have V23 : own_A Z h23 b2 k1 .int (32 : Int32) [(65 : Int32), (90 : Int32), (95 : Int32), (97 : Int32), (122 : Int32), (192 : Int32), (214 : Int32), (216 : Int32), (246 : Int32), (248 : Int32), (767 : Int32), (880 : Int32), (893 : Int32), (895 : Int32), (8191 : Int32), (8204 : Int32), (8205 : Int32), (8304 : Int32), (8591 : Int32), (11264 : Int32), (12271 : Int32), (12289 : Int32), (0 : Int32), (0 : Int32), (0 : Int32), (0 : Int32), (0 : Int32), (0 : Int32), (0 : Int32), (0 : Int32), (0 : Int32), (0 : Int32)] := V23
  refine own_step (st23) ?_
  show own_Goes p.tables e below (T23.setTop (mkF m 147 #[.val (.int p0), .val (.int p1), .unset, .unset, .unset, .unset] [(.ref b2)])) _
  refine own_step (fun _ => XS.dup X23.here hx rfl (hb hby at_147) rfl rfl) ?_
  show own_Goes p.tables e below (T23.setTop (mkF m 148 #[.val (.int p0), .val (.int p1), .unset, .unset, .unset, .unset] [(.ref b2), (.ref b2)])) _
  refine own_step (fun _ => XS.bipush X23.here hx rfl (hb hby at_148)) ?_
  show own_Goes p.tables e below (T23.setTop (mkF m 150 #[.val (.int p0), .val (.int p1), .unset, .unset, .unset, .unset] [(.int (22 : Int32)), (.ref b2), (.ref b2)])) _
  refine own_step (X23.ldcInt hx hown (mvT hZ (hw _ (List.mem_of_getElem? (i := 1) rfl))) (g := (mkF m 150 #[.val (.int p0), .val (.int p1), .unset, .unset, .unset, .unset] [(.int (22 : Int32)), (.ref b2), (.ref b2)])) rfl (hb hby at_150)) ?_
  show own_Goes p.tables e below (T23.setTop (mkF m 152 #[.val (.int p0), .val (.int p1), .unset, .unset, .unset, .unset] [(.int (55295 : Int32)), (.int (22 : Int32)), (.ref b2), (.ref b2)])) _
  obtain ⟨T24, h24, L24, X24, e24, N24, V24, W24, st24⟩ := own_stI X23 hx hZ e23 V23 (j := (22 : Int32)) 22 ⟨by decide, by decide⟩ (by decide) (by decide) (g := (mkF m 152 #[.val (.int p0), .val (.int p1), .unset, .unset, .unset, .unset] [(.int (55295 : Int32)), (.int (22 : Int32)), (.ref b2), (.ref b2)])) rfl rfl (hb hby at_152)
  have N24 := N24 n0 N23 g_b2
  have K24 : Keep h0 h24 [] := K23.wr W24 (Or.inr sz_b2)
  have Z24 : n0 ≤ h24.size := Nat.le_trans Z0 K24.1
  have V24 : own_A Z h24 b2 k1 .int (32 : Int32) [(65 : Int32), (90 : Int32), (95 : Int32), (97 : Int32), (122 : Int32), (192 : Int32), (214 : Int32), (216 : Int32), (246 : Int32), (248 : Int32), (767 : Int32), (880 : Int32), (893 : Int32), (895 : Int32), (8191 : Int32), (8204 : Int32), (8205 : Int32), (8304 : Int32), (8591 : Int32), (11264 : Int32), (12271 : Int32), (12289 : Int32), (55295 : Int32), (0 : Int32), (0 : Int32), (0 : Int32), (0 : Int32), (0 : Int32), (0 : Int32), (0 : Int32), (0 : Int32), (0 : Int32)] := V24
  refine own_step (st24) ?_
  show own_Goes p.tables e below (T24.setTop (mkF m 153 #[.val (.int p0), .val (.int p1), .unset, .unset, .unset, .unset] [(.ref b2)])) _
  refine own_step (fun _ => XS.dup X24.here hx rfl (hb hby at_153) rfl rfl) ?_
  show own_Goes p.tables e below (T24.setTop (mkF m 154 #[.val (.int p0), .val (.int p1), .unset, .unset, .unset, .unset] [(.ref b2), (.ref b2)])) _
  refine own_step (fun _ => XS.bipush X24.here hx rfl (hb hby at_154)) ?_
  show own_Goes p.tables e below (T24.setTop (mkF m 156 #[.val (.int p0), .val (.int p1), .unset, .unset, .unset, .unset] [(.int (23 : Int32)), (.ref b2), (.ref b2)])) _
  refine own_step (X24.ldcInt hx hown (mvT hZ (hw _ (List.mem_of_getElem? (i := 2) rfl))) (g := (mkF m 156 #[.val (.int p0), .val (.int p1), .unset, .unset, .unset, .unset] [(.int (23 : Int32)), (.ref b2), (.ref b2)])) rfl (hb hby at_156)) ?_
  show own_Goes p.tables e below (T24.setTop (mkF m 158 #[.val (.int p0), .val (.int p1), .unset, .unset, .unset, .unset] [(.int (63744 : Int32)), (.int (23 : Int32)), (.ref b2), (.ref b2)])) _
  obtain ⟨T25, h25, L25, X25, e25, N25, V25, W25, st25⟩ := own_stI X24 hx hZ e24 V24 (j := (23 : Int32)) 23 ⟨by decide, by decide⟩ (by decide) (by decide) (g := (mkF m 158 #[.val (.int p0), .val (.int p1), .unset, .unset, .unset, .unset] [(.int (63744 : Int32)), (.int (23 : Int32)), (.ref b2), (.ref b2)])) rfl rfl (hb hby at_158)
  have N25 := N25 n0 N24 g_b2
  have K25 : Keep h0 h25 [] := K24.wr W25 (Or.inr sz_b2)
  have Z25 : n0 ≤ h25.size := Nat.le_trans Z0 K25.1
  have V25 : own_A Z h25 b2 k1 .int (32 : Int32) [(65 : Int32), (90 : Int32), (95 : Int32), (97 : Int32), (122 : Int32), (192 : Int32), (214 : Int32), (216 : Int32), (246 : Int32), (248 : Int32), (767 : Int32), (880 : Int32), (893 : Int32), (895 : Int32), (8191 : Int32), (8204 : Int32), (8205 : Int32), (8304 : Int32), (8591 : Int32), (11264 : Int32), (12271 : Int32), (12289 : Int32), (55295 : Int32), (63744 : Int32), (0 : Int32), (0 : Int32), (0 : Int32), (0 : Int32), (0 : Int32), (0 : Int32), (0 : Int32), (0 : Int32)] := V25
  refine own_step (st25) ?_
  show own_Goes p.tables e below (T25.setTop (mkF m 159 #[.val (.int p0), .val (.int p1), .unset, .unset, .unset, .unset] [(.ref b2)])) _
  refine own_step (fun _ => XS.dup X25.here hx rfl (hb hby at_159) rfl rfl) ?_
  show own_Goes p.tables e below (T25.setTop (mkF m 160 #[.val (.int p0), .val (.int p1), .unset, .unset, .unset, .unset] [(.ref b2), (.ref b2)])) _
  refine own_step (fun _ => XS.bipush X25.here hx rfl (hb hby at_160)) ?_
  show own_Goes p.tables e below (T25.setTop (mkF m 162 #[.val (.int p0), .val (.int p1), .unset, .unset, .unset, .unset] [(.int (24 : Int32)), (.ref b2), (.ref b2)])) _
  refine own_step (X25.ldcInt hx hown (mvT hZ (hw _ (List.mem_of_getElem? (i := 3) rfl))) (g := (mkF m 162 #[.val (.int p0), .val (.int p1), .unset, .unset, .unset, .unset] [(.int (24 : Int32)), (.ref b2), (.ref b2)])) rfl (hb hby at_162)) ?_
  show own_Goes p.tables e below (T25.setTop (mkF m 164 #[.val (.int p0), .val (.int p1), .unset, .unset, .unset, .unset] [(.int (64975 : Int32)), (.int (24 : Int32)), (.ref b2), (.ref b2)])) _
  obtain ⟨T26, h26, L26, X26, e26, N26, V26, W26, st26⟩ := own_stI X25 hx hZ e25 V25 (j := (24 : Int32)) 24 ⟨by decide, by decide⟩ (by decide) (by decide) (g := (mkF m 164 #[.val (.int p0), .val (.int p1), .unset, .unset, .unset, .unset] [(.int (64975 : Int32)), (.int (24 : Int32)), (.ref b2), (.ref b2)])) rfl rfl (hb hby at_164)
  have N26 := N26 n0 N25 g_b2
  have K26 : Keep h0 h26 [] := K25.wr W26 (Or.inr sz_b2)
  have Z26 : n0 ≤ h26.size := Nat.le_trans Z0 K26.1
  have V26 : own_A Z h26 b2 k1 .int (32 : Int32) [(65 : Int32), (90 : Int32), (95 : Int32), (97 : Int32), (122 : Int32), (192 : Int32), (214 : Int32), (216 : Int32), (246 : Int32), (248 : Int32), (767 : Int32), (880 : Int32), (893 : Int32), (895 : Int32), (8191 : Int32), (8204 : Int32), (8205 : Int32), (8304 : Int32), (8591 : Int32), (11264 : Int32), (12271 : Int32), (12289 : Int32), (55295 : Int32), (63744 : Int32), (64975 : Int32), (0 : Int32), (0 : Int32), (0 : Int32), (0 : Int32), (0 : Int32), (0 : Int32), (0 : Int32)] := V26
  refine own_step (st26) ?_
  show own_Goes p.tables e below (T26.setTop (mkF m 165 #[.val (.int p0), .val (.int p1), .unset, .unset, .unset, .unset] [(.ref b2)])) _
  refine own_step (fun _ => XS.dup X26.here hx rfl (hb hby at_165) rfl rfl) ?_
  show own_Goes p.tables e below (T26.setTop (mkF m 166 #[.val (.int p0), .val (.int p1), .unset, .unset, .unset, .unset] [(.ref b2), (.ref b2)])) _
  refine own_step (fun _ => XS.bipush X26.here hx rfl (hb hby at_166)) ?_
  show own_Goes p.tables e below (T26.setTop (mkF m 168 #[.val (.int p0), .val (.int p1), .unset, .unset, .unset, .unset] [(.int (25 : Int32)), (.ref b2), (.ref b2)])) _
  refine own_step (X26.ldcInt hx hown (mvT hZ (hw _ (List.mem_of_getElem? (i := 4) rfl))) (g := (mkF m 168 #[.val (.int p0), .val (.int p1), .unset, .unset, .unset, .unset] [(.int (25 : Int32)), (.ref b2), (.ref b2)])) rfl (hb hby at_168)) ?_
  show own_Goes p.tables e below (T26.setTop (mkF m 170 #[.val (.int p0), .val (.int p1), .unset, .unset, .unset, .unset] [(.int (65008 : Int32)), (.int (25 : Int32)), (.ref b2), (.ref b2)])) _
  obtain ⟨T27, h27, L27, X27, e27, N27, V27, W27, st27⟩ := own_stI X26 hx hZ e26 V26 (j := (25 : Int32)) 25 ⟨by decide, by decide⟩ (by decide) (by decide) (g := (mkF m 170 #[.val (.int p0), .val (.int p1), .unset, .unset, .unset, .unset] [(.int (65008 : Int32)), (.int (25 : Int32)), (.ref b2), (.ref b2)])) rfl rfl (hb hby at_170)
  have N27 := N27 n0 N26 g_b2
  have K27 : Keep h0 h27 [] := K26.wr W27 (Or.inr sz_b2)
  have Z27 : n0 ≤ h27.size := Nat.le_trans Z0 K27.1
  have V27 : own_A Z h27 b2 k1 .int (32 : Int32) [(65 : Int32), (90 : Int32), (95 : Int32), (97 : Int32), (122 : Int32), (192 : Int32), (214 : Int32), (216 : Int32), (246 : Int32), (248 : Int32), (767 : Int32), (880 : Int32), (893 : Int32), (895 : Int32), (8191 : Int32), (8204 : Int32), (8205 : Int32), (8304 : Int32), (8591 : Int32), (11264 : Int32), (12271 : Int32), (12289 : Int32), (55295 : Int32), (63744 : Int32), (64975 : Int32), (65008 : Int32), (0 : Int32), (0 : Int32), (0 : Int32), (0 : Int32), (0 : Int32), (0 : Int32)] := V27
  refine own_step (st27) ?_
  show own_Goes p.tables e below (T27.setTop (mkF m 171 #[.val (.int p0), .val (.int p1), .unset, .unset, .unset, .unset] [(.ref b2)])) _
  refine own_step (fun _ => XS.dup X27.here hx rfl (hb hby at_171) rfl rfl) ?_
  show own_Goes p.tables e below (T27.setTop (mkF m 172 #[.val (.int p0), .val (.int p1), .unset, .unset, .unset, .unset] [(.ref b2), (.ref b2)])) _
  refine own_step (fun _ => XS.bipush X27.here hx rfl (hb hby at_172)) ?_
  show own_Goes p.tables e below (T27.setTop (mkF m 174 #[.val (.int p0), .val (.int p1), .unset, .unset, .unset, .unset] [(.int (26 : Int32)), (.ref b2), (.ref b2)])) _
  refine own_step (X27.ldcInt hx hown (mvT hZ (hw _ (List.mem_of_getElem? (i := 5) rfl))) (g := (mkF m 174 #[.val (.int p0), .val (.int p1), .unset, .unset, .unset, .unset] [(.int (26 : Int32)), (.ref b2), (.ref b2)])) rfl (hb hby at_174)) ?_
  show own_Goes p.tables e below (T27.setTop (mkF m 176 #[.val (.int p0), .val (.int p1), .unset, .unset, .unset, .unset] [(.int (65533 : Int32)), (.int (26 : Int32)), (.ref b2), (.ref b2)])) _
  obtain ⟨T28, h28, L28, X28, e28, N28, V28, W28, st28⟩ := own_stI X27 hx hZ e27 V27 (j := (26 : Int32)) 26 ⟨by decide, by decide⟩ (by decide) (by decide) (g := (mkF m 176 #[.val (.int p0), .val (.int p1), .unset, .unset, .unset, .unset] [(.int (65533 : Int32)), (.int (26 : Int32)), (.ref b2), (.ref b2)])) rfl rfl (hb hby at_176)
  have N28 := N28 n0 N27 g_b2
  have K28 : Keep h0 h28 [] := K27.wr W28 (Or.inr sz_b2)
  have Z28 : n0 ≤ h28.size := Nat.le_trans Z0 K28.1
  have V28 : own_A Z h28 b2 k1 .int (32 : Int32) [(65 : Int32), (90 : Int32), (95 : Int32), (97 : Int32), (122 : Int32), (192 : Int32), (214 : Int32), (216 : Int32), (246 : Int32), (248 : Int32), (767 : Int32), (880 : Int32), (893 : Int32), (895 : Int32), (8191 : Int32), (8204 : Int32), (8205 : Int32), (8304 : Int32), (8591 : Int32), (11264 : Int32), (12271 : Int32), (12289 : Int32), (55295 : Int32), (63744 : Int32), (64975 : Int32), (65008 : Int32), (65533 : Int32), (0 : Int32), (0 : Int32), (0 : Int32), (0 : Int32), (0 : Int32)] := V28
  refine own_step (st28) ?_
  show own_Goes p.tables e below (T28.setTop (mkF m 177 #[.val (.int p0), .val (.int p1), .unset, .unset, .unset, .unset] [(.ref b2)])) _
  refine own_step (fun _ => XS.dup X28.here hx rfl (hb hby at_177) rfl rfl) ?_
  show own_Goes p.tables e below (T28.setTop (mkF m 178 #[.val (.int p0), .val (.int p1), .unset, .unset, .unset, .unset] [(.ref b2), (.ref b2)])) _
  refine own_step (fun _ => XS.bipush X28.here hx rfl (hb hby at_178)) ?_
  show own_Goes p.tables e below (T28.setTop (mkF m 180 #[.val (.int p0), .val (.int p1), .unset, .unset, .unset, .unset] [(.int (27 : Int32)), (.ref b2), (.ref b2)])) _
  refine own_step (X28.ldcInt hx hown (mvT hZ (hw _ (List.mem_of_getElem? (i := 6) rfl))) (g := (mkF m 180 #[.val (.int p0), .val (.int p1), .unset, .unset, .unset, .unset] [(.int (27 : Int32)), (.ref b2), (.ref b2)])) rfl (hb hby at_180)) ?_
  show own_Goes p.tables e below (T28.setTop (mkF m 182 #[.val (.int p0), .val (.int p1), .unset, .unset, .unset, .unset] [(.int (65536 : Int32)), (.int (27 : Int32)), (.ref b2), (.ref b2)])) _
  obtain ⟨T29, h29, L29, X29, e29, N29, V29, W29, st29⟩ := own_stI X28 hx hZ e28 V28 (j := (27 : Int32)) 27 ⟨by decide, by decide⟩ (by decide) (by decide) (g := (mkF m 182 #[.val (.int p0), .val (.int p1), .unset, .unset, .unset, .unset] [(.int (65536 : Int32)), (.int (27 : Int32)), (.ref b2), (.ref b2)])) rfl rfl (hb hby at_182)
  have N29 := N29 n0 N28 g_b2
  have K29 : Keep h0 h29 [] := K28.wr W29 (Or.inr sz_b2)
  have Z29 : n0 ≤ h29.size := Nat.le_trans Z0 K29.1
  have V29 : own_A Z h29 b2 k1 .int (32 : Int32) [(65 : Int32), (90 : Int32), (95 : Int32), (97 : Int32), (122 : Int32), (192 : Int32), (214 : Int32), (216 : Int32), (246 : Int32), (248 : Int32), (767 : Int32), (880 : Int32), (893 : Int32), (895 : Int32), (8191 : Int32), (8204 : Int32), (8205 : Int32), (8304 : Int32), (8591 : Int32), (11264 : Int32), (12271 : Int32), (12289 : Int32), (55295 : Int32), (63744 : Int32), (64975 : Int32), (65008 : Int32), (65533 : Int32), (65536 : Int32), (0 : Int32), (0 : Int32), (0 : Int32), (0 : Int32)] := V29
  refine own_step (st29) ?_
  show own_Goes p.tables e below (T29.setTop (mkF m 183 #[.val (.int p0), .val (.int p1), .unset, .unset, .unset, .unset] [(.ref b2)])) _
  refine own_step (fun _ => XS.dup X29.here hx rfl (hb hby at_183) rfl rfl) ?_
  show own_Goes p.tables e below (T29.setTop (mkF m 184 #[.val (.int p0), .val (.int p1), .unset, .unset, .unset, .unset] [(.ref b2), (.ref b2)])) _
  refine own_step (fun _ => XS.bipush X29.here hx rfl (hb hby at_184)) ?_
  show own_Goes p.tables e below (T29.setTop (mkF m 186 #[.val (.int p0), .val (.int p1), .unset, .unset, .unset, .unset] [(.int (28 : Int32)), (.ref b2), (.ref b2)])) _
  refine own_step (X29.ldcInt hx hown (mvT hZ (hw _ (List.mem_of_getElem? (i := 7) rfl))) (g := (mkF m 186 #[.val (.int p0), .val (.int p1), .unset, .unset, .unset, .unset] [(.int (28 : Int32)), (.ref b2), (.ref b2)])) rfl (hb hby at_186)) ?_
  show own_Goes p.tables e below (T29.setTop (mkF m 188 #[.val (.int p0), .val (.int p1), .unset, .unset, .unset, .unset] [(.int (983039 : Int32)), (.int (28 : Int32)), (.ref b2), (.ref b2)])) _
  obtain ⟨T30, h30, L30, X30, e30, N30, V30, W30, st30⟩ := own_stI X29 hx hZ e29 V29 (j := (28 : Int32)) 28 ⟨by decide, by decide⟩ (by decide) (by decide) (g := (mkF m 188 #[.val (.int p0), .val (.int p1), .unset, .unset, .unset, .unset] [(.int (983039 : Int32)), (.int (28 : Int32)), (.ref b2), (.ref b2)])) rfl rfl (hb hby at_188)
  have N30 := N30 n0 N29 g_b2
  have K30 : Keep h0 h30 [] := K29.wr W30 (Or.inr sz_b2)
  have Z30 : n0 ≤ h30.size := Nat.le_trans Z0 K30.1
  have V30 : own_A Z h30 b2 k1 .int (32 : Int32) [(65 : Int32), (90 : Int32), (95 : Int32), (97 : Int32), (122 : Int32), (192 : Int32), (214 : Int32), (216 : Int32), (246 : Int32), (248 : Int32), (767 : Int32), (880 : Int32), (893 : Int32), (895 : Int32), (8191 : Int32), (8204 : Int32), (8205 : Int32), (8304 : Int32), (8591 : Int32), (11264 : Int32), (12271 : Int32), (12289 : Int32), (55295 : Int32), (63744 : Int32), (64975 : Int32), (65008 : Int32), (65533 : Int32), (65536 : Int32), (983039 : Int32), (0 : Int32), (0 : Int32), (0 : Int32)] := V30
  refine own_step (st30) ?_
  show own_Goes p.tables e below (T30.setTop (mkF m 189 #[.val (.int p0), .val (.int p1), .unset, .unset, .unset, .unset] [(.ref b2)])) _
  refine own_step (fun _ => XS.dup X30.here hx rfl (hb hby at_189) rfl rfl) ?_
  show own_Goes p.tables e below (T30.setTop (mkF m 190 #[.val (.int p0), .val (.int p1), .unset, .unset, .unset, .unset] [(.ref b2), (.ref b2)])) _
  refine own_step (fun _ => XS.bipush X30.here hx rfl (hb hby at_190)) ?_
  show own_Goes p.tables e below (T30.setTop (mkF m 192 #[.val (.int p0), .val (.int p1), .unset, .unset, .unset, .unset] [(.int (29 : Int32)), (.ref b2), (.ref b2)])) _
  refine own_step (fun _ => XS.iconst X30.here hx rfl (hb hby at_192)) ?_
  show own_Goes p.tables e below (T30.setTop (mkF m 193 #[.val (.int p0), .val (.int p1), .unset, .unset, .unset, .unset] [(.int (0 : Int32)), (.int (29 : Int32)), (.ref b2), (.ref b2)])) _
  obtain ⟨T31, h31, L31, X31, e31, N31, V31, W31, st31⟩ := own_stI X30 hx hZ e30 V30 (j := (29 : Int32)) 29 ⟨by decide, by decide⟩ (by decide) (by decide) (g := (mkF m 193 #[.val (.int p0), .val (.int p1), .unset, .unset, .unset, .unset] [(.int (0 : Int32)), (.int (29 : Int32)), (.ref b2), (.ref b2)])) rfl rfl (hb hby at_193)
  have N31 := N31 n0 N30 g_b2
  have K31 : Keep h0 h31 [] := K30.wr W31 (Or.inr sz_b2)
  have Z31 : n0 ≤ h31.size := Nat.le_trans Z0 K31.1
  have V31 : own_A Z h31 b2 k1 .int (32 : Int32) [(65 : Int32), (90 : Int32), (95 : Int32), (97 : Int32), (122 : Int32), (192 : Int32), (214 : Int32), (216 : Int32), (246 : Int32), (248 : Int32), (767 : Int32), (880 : Int32), (893 : Int32), (895 : Int32), (8191 : Int32), (8204 : Int32), (8205 : Int32), (8304 : Int32), (8591 : Int32), (11264 : Int32), (12271 : Int32), (12289 : Int32), (55295 : Int32), (63744 : Int32), (64975 : Int32), (65008 : Int32), (65533 : Int32), (65536 : Int32), (983039 : Int32), (0 : Int32), (0 : Int32), (0 : Int32)] := V31
  refine own_step (st31) ?_
  show own_Goes p.tables e below (T31.setTop (mkF m 194 #[.val (.int p0), .val (.int p1), .unset, .unset, .unset, .unset] [(.ref b2)])) _
  refine own_step (fun _ => XS.dup X31.here hx rfl (hb hby at_194) rfl rfl) ?_
  show own_Goes p.tables e below (T31.setTop (mkF m 195 #[.val (.int p0), .val (.int p1), .unset, .unset, .unset, .unset] [(.ref b2), (.ref b2)])) _
  refine own_step (fun _ => XS.bipush X31.here hx rfl (hb hby at_195)) ?_
  show own_Goes p.tables e below (T31.setTop (mkF m 197 #[.val (.int p0), .val (.int p1), .unset, .unset, .unset, .unset] [(.int (30 : Int32)), (.ref b2), (.ref b2)])) _
  refine own_step (X31.ldcInt hx hown (mvT hZ (hw _ (List.mem_of_getElem? (i := 8) rfl))) (g := (mkF m 197 #[.val (.int p0), .val (.int p1), .unset, .unset, .unset, .unset] [(.int (30 : Int32)), (.ref b2), (.ref b2)])) rfl (hb hby at_197)) ?_
  show own_Goes p.tables e below (T31.setTop (mkF m 199 #[.val (.int p0), .val (.int p1), .unset, .unset, .unset, .unset] [(.int (-2147483647 : Int32)), (.int (30 : Int32)), (.ref b2), (.ref b2)])) _
  obtain ⟨T32, h32, L32, X32, e32, N32, V32, W32, st32⟩ := own_stI X31 hx hZ e31 V31 (j := (30 : Int32)) 30 ⟨by decide, by decide⟩ (by decide) (by decide) (g := (mkF m 199 #[.val (.int p0), .val (.int p1), .unset, .unset, .unset, .unset] [(.int (-2147483647 : Int32)), (.int (30 : Int32)), (.ref b2), (.ref b2)])) rfl rfl (hb hby at_199)
  have N32 := N32 n0 N31 g_b2
  have K32 : Keep h0 h32 [] := K31.wr W32 (Or.inr sz_b2)
  have Z32 : n0 ≤ h32.size := Nat.le_trans Z0 K32.1
  have V32 : own_A Z h32 b2 k1 .int (32 : Int32) [(65 : Int32), (90 : Int32), (95 : Int32), (97 : Int32), (122 : Int32), (192 : Int32), (214 : Int32), (216 : Int32), (246 : Int32), (248 : Int32), (767 : Int32), (880 : Int32), (893 : Int32), (895 : Int32), (8191 : Int32), (8204 : Int32), (8205 : Int32), (8304 : Int32), (8591 : Int32), (11264 : Int32), (12271 : Int32), (12289 : Int32), (55295 : Int32), (63744 : Int32), (64975 : Int32), (65008 : Int32), (65533 : Int32), (65536 : Int32), (983039 : Int32), (0 : Int32), (-2147483647 : Int32), (0 : Int32)] := V32
  refine own_step (st32) ?_
  show own_Goes p.tables e below (T32.setTop (mkF m 200 #[.val (.int p0), .val (.int p1), .unset, .unset, .unset, .unset] [(.ref b2)])) _
  refine own_step (fun _ => XS.dup X32.here hx rfl (hb hby at_200) rfl rfl) ?_
  show own_Goes p.tables e below (T32.setTop (mkF m 201 #[.val (.int p0), .val (.int p1), .unset, .unset, .unset, .unset] [(.ref b2), (.ref b2)])) _
  refine own_step (fun _ => XS.bipush X32.here hx rfl (hb hby at_201)) ?_
  show own_Goes p.tables e below (T32.setTop (mkF m 203 #[.val (.int p0), .val (.int p1), .unset, .unset, .unset, .unset] [(.int (31 : Int32)), (.ref b2), (.ref b2)])) _
  refine own_step (X32.ldcInt hx hown (mvT hZ (hw _ (List.mem_of_getElem? (i := 9) rfl))) (g := (mkF m 203 #[.val (.int p0), .val (.int p1), .unset, .unset, .unset, .unset] [(.int (31 : Int32)), (.ref b2), (.ref b2)])) rfl (hb hby at_203)) ?_
  show own_Goes p.tables e below (T32.setTop (mkF m 205 #[.val (.int p0), .val (.int p1), .unset, .unset, .unset, .unset] [(.int (2147483646 : Int32)), (.int (31 : Int32)), (.ref b2), (.ref b2)])) _
  obtain ⟨T33, h33, L33, X33, e33, N33, V33, W33, st33⟩ := own_stI X32 hx hZ e32 V32 (j := (31 : Int32)) 31 ⟨by decide, by decide⟩ (by decide) (by decide) (g := (mkF m 205 #[.val (.int p0), .val (.int p1), .unset, .unset, .unset, .unset] [(.int (2147483646 : Int32)), (.int (31 : Int32)), (.ref b2), (.ref b2)])) rfl rfl (hb hby at_205)
  have N33 := N33 n0 N32 g_b2
  have K33 : Keep h0 h33 [] := K32.wr W33 (Or.inr sz_b2)
  have Z33 : n0 ≤ h33.size := Nat.le_trans Z0 K33.1
  have V33 : own_A Z h33 b2 k1 .int (32 : Int32) [(65 : Int32), (90 : Int32), (95 : Int32), (97 : Int32), (122 : Int32), (192 : Int32), (214 : Int32), (216 : Int32), (246 : Int32), (248 : Int32), (767 : Int32), (880 : Int32), (893 : Int32), (895 : Int32), (8191 : Int32), (8204 : Int32), (8205 : Int32), (8304 : Int32), (8591 : Int32), (11264 : Int32), (12271 : Int32), (12289 : Int32), (55295 : Int32), (63744 : Int32), (64975 : Int32), (65008 : Int32), (65533 : Int32), (65536 : Int32), (983039 : Int32), (0 : Int32), (-2147483647 : Int32), (2147483646 : Int32)] := V33
  refine own_step (st33) ?_
  show own_Goes p.tables e below (T33.setTop (mkF m 206 #[.val (.int p0), .val (.int p1), .unset, .unset, .unset, .unset] [(.ref b2)])) _
  have V_own_tb : own_A Z h33 b2 k1 .int (32 : Int32) own_tb := V33
  refine own_step (fun _ => XS.astoreN X33.here hx rfl (hb hby at_206) rfl rfl (l' := #[.val (.int p0), .val (.int p1), .val (.ref b2), .unset, .unset, .unset]) rfl) ?_
  show own_Goes p.tables e below (T33.setTop (mkF m 207 #[.val (.int p0), .val (.int p1), .val (.ref b2), .unset, .unset, .unset] [])) _
  refine own_step (fun _ => XS.iloadN X33.here hx rfl (hb hby at_207) rfl) ?_
  show own_Goes p.tables e below (T33.setTop (mkF m 208 #[.val (.int p0), .val (.int p1), .val (.ref b2), .unset, .unset, .unset] [(.int p1)])) _
  refine own_step (fun _ => XS.bipush X33.here hx rfl (hb hby at_208)) ?_
  show own_Goes p.tables e below (T33.setTop (mkF m 210 #[.val (.int p0), .val (.int p1), .val (.ref b2), .unset, .unset, .unset] [(.int (31 : Int32)), (.int p1)])) _
  refine own_step (fun _ => XS.iand X33.here hx rfl (hb hby at_210) rfl) ?_
  show own_Goes p.tables e below (T33.setTop (mkF m 211 #[.val (.int p0), .val (.int p1), .val (.ref b2), .unset, .unset, .unset] [(.int (p1 &&& (31 : Int32)))])) _
  refine own_step (fun _ => XS.istoreN X33.here hx rfl (hb hby at_211) rfl (l' := #[.val (.int p0), .val (.int p1), .val (.ref b2), .val (.int (p1 &&& (31 : Int32))), .unset, .unset]) rfl) ?_
  show own_Goes p.tables e below (T33.setTop (mkF m 212 #[.val (.int p0), .val (.int p1), .val (.ref b2), .val (.int (p1 &&& (31 : Int32))), .unset, .unset] [])) _
  refine own_step (fun _ => XS.iloadN X33.here hx rfl (hb hby at_212) rfl) ?_
  show own_Goes p.tables e below (T33.setTop (mkF m 213 #[.val (.int p0), .val (.int p1), .val (.ref b2), .val (.int (p1 &&& (31 : Int32))), .unset, .unset] [(.int p1)])) _
  refine own_step (fun _ => XS.iconst X33.here hx rfl (hb hby at_213)) ?_
  show own_Goes p.tables e below (T33.setTop (mkF m 214 #[.val (.int p0), .val (.int p1), .val (.ref b2), .val (.int (p1 &&& (31 : Int32))), .unset, .unset] [(.int (5 : Int32)), (.int p1)])) _
  refine own_step (fun _ => XS.iushr X33.here hx rfl (hb hby at_214) rfl) ?_
  show own_Goes p.tables e below (T33.setTop (mkF m 215 #[.val (.int p0), .val (.int p1), .val (.ref b2), .val (.int (p1 &&& (31 : Int32))), .unset, .unset] [(.int ((p1.toUInt32 >>> ((5 : Int32) &&& 31).toUInt32).toInt32))])) _
  refine own_step (fun _ => XS.iconst X33.here hx rfl (hb hby at_215)) ?_
  show own_Goes p.tables e below (T33.setTop (mkF m 216 #[.val (.int p0), .val (.int p1), .val (.ref b2), .val (.int (p1 &&& (31 : Int32))), .unset, .unset] [(.int (3 : Int32)), (.int ((p1.toUInt32 >>> ((5 : Int32) &&& 31).toUInt32).toInt32))])) _
  refine own_step (fun _ => XS.irem X33.here hx rfl (hb hby at_216) rfl (by decide)) ?_
  show own_Goes p.tables e below (T33.setTop (mkF m 217 #[.val (.int p0), .val (.int p1), .val (.ref b2), .val (.int (p1 &&& (31 : Int32))), .unset, .unset] [(.int (((p1.toUInt32 >>> ((5 : Int32) &&& 31).toUInt32).toInt32) - ((p1.toUInt32 >>> ((5 : Int32) &&& 31).toUInt32).toInt32) / (3 : Int32) * (3 : Int32)))])) _
  refine own_step (fun _ => XS.iconst X33.here hx rfl (hb hby at_217)) ?_
  show own_Goes p.tables e below (T33.setTop (mkF m 218 #[.val (.int p0), .val (.int p1), .val (.ref b2), .val (.int (p1 &&& (31 : Int32))), .unset, .unset] [(.int (1 : Int32)), (.int (((p1.toUInt32 >>> ((5 : Int32) &&& 31).toUInt32).toInt32) - ((p1.toUInt32 >>> ((5 : Int32) &&& 31).toUInt32).toInt32) / (3 : Int32) * (3 : Int32)))])) _
  refine own_step (fun _ => XS.isub X33.here hx rfl (hb hby at_218) rfl) ?_
  show own_Goes p.tables e below (T33.setTop (mkF m 219 #[.val (.int p0), .val (.int p1), .val (.ref b2), .val (.int (p1 &&& (31 : Int32))), .unset, .unset] [(.int ((((p1.toUInt32 >>> ((5 : Int32) &&& 31).toUInt32).toInt32) - ((p1.toUInt32 >>> ((5 : Int32) &&& 31).toUInt32).toInt32) / (3 : Int32) * (3 : Int32)) - (1 : Int32)))])) _
  obtain ⟨z219, hz219⟩ : ∃ z : Int32, z = ((((p1.toUInt32 >>> ((5 : Int32) &&& 31).toUInt32).toInt32) - ((p1.toUInt32 >>> ((5 : Int32) &&& 31).toUInt32).toInt32) / (3 : Int32) * (3 : Int32)) - (1 : Int32)) := ⟨_, rfl⟩
  refine own_step (fun _ => XS.istore X33.here hx rfl (hb hby at_219) rfl (l' := #[.val (.int p0), .val (.int p1), .val (.ref b2), .val (.int (p1 &&& (31 : Int32))), .val (.int z219), .unset]) (by subst hz219; rfl)) ?_
  show own_Goes p.tables e below (T33.setTop (mkF m 221 #[.val (.int p0), .val (.int p1), .val (.ref b2), .val (.int (p1 &&& (31 : Int32))), .val (.int z219), .unset] [])) _
  refine own_step (fun _ => XS.aloadN X33.here hx rfl (hb hby at_221) rfl rfl) ?_
  show own_Goes p.tables e below (T33.setTop (mkF m 222 #[.val (.int p0), .val (.int p1), .val (.ref b2), .val (.int (p1 &&& (31 : Int32))), .val (.int z219), .unset] [(.ref b2)])) _
  refine own_step (fun _ => XS.iloadN X33.here hx rfl (hb hby at_222) rfl) ?_
  show own_Goes p.tables e below (T33.setTop (mkF m 223 #[.val (.int p0), .val (.int p1), .val (.ref b2), .val (.int (p1 &&& (31 : Int32))), .val (.int z219), .unset] [(.int (p1 &&& (31 : Int32))), (.ref b2)])) _
  refine own_step (own_ldI X33 hx hZ e33 V_own_tb (j := (p1 &&& (31 : Int32))) (own_nn p1) (g := (mkF m 223 #[.val (.int p0), .val (.int p1), .val (.ref b2), .val (.int (p1 &&& (31 : Int32))), .val (.int z219), .unset] [(.int (p1 &&& (31 : Int32))), (.ref b2)])) rfl rfl (hb hby at_223)) ?_
  show own_Goes p.tables e below (T33.setTop (mkF m 224 #[.val (.int p0), .val (.int p1), .val (.ref b2), .val (.int (p1 &&& (31 : Int32))), .val (.int z219), .unset] [(.int (own_tb.getD (p1 &&& (31 : Int32)).toNatClampNeg 0))])) _
  refine own_step (fun _ => XS.iload X33.here hx rfl (hb hby at_224) rfl) ?_
  show own_Goes p.tables e below (T33.setTop (mkF m 226 #[.val (.int p0), .val (.int p1), .val (.ref b2), .val (.int (p1 &&& (31 : Int32))), .val (.int z219), .unset] [(.int z219), (.int (own_tb.getD (p1 &&& (31 : Int32)).toNatClampNeg 0))])) _
  refine own_step (fun _ => XS.iadd X33.here hx rfl (hb hby at_226) rfl) ?_
  show own_Goes p.tables e below (T33.setTop (mkF m 227 #[.val (.int p0), .val (.int p1), .val (.ref b2), .val (.int (p1 &&& (31 : Int32))), .val (.int z219), .unset] [(.int ((own_tb.getD (p1 &&& (31 : Int32)).toNatClampNeg 0) + z219))])) _
  obtain ⟨z227, hz227⟩ : ∃ z : Int32, z = ((own_tb.getD (p1 &&& (31 : Int32)).toNatClampNeg 0) + z219) := ⟨_, rfl⟩
  refine own_step (fun _ => XS.istore X33.here hx rfl (hb hby at_227) rfl (l' := #[.val (.int p0), .val (.int p1), .val (.ref b2), .val (.int (p1 &&& (31 : Int32))), .val (.int z219), .val (.int z227)]) (by subst hz227; rfl)) ?_
  show own_Goes p.tables e below (T33.setTop (mkF m 229 #[.val (.int p0), .val (.int p1), .val (.ref b2), .val (.int (p1 &&& (31 : Int32))), .val (.int z219), .val (.int z227)] [])) _
  refine own_step (fun _ => XS.iloadN X33.here hx rfl (hb hby at_229) rfl) ?_
  show own_Goes p.tables e below (T33.setTop (mkF m 230 #[.val (.int p0), .val (.int p1), .val (.ref b2), .val (.int (p1 &&& (31 : Int32))), .val (.int z219), .val (.int z227)] [(.int p0)])) _
  obtain ⟨_, _, ⟨T34, L34, k34, n34⟩, -, X34, ⟨Lc34, hQ34, l34, y34, z34⟩, st34⟩ := Jvm.LawKit.callS X33 hx (y := (⟨"com/example/unnest/unnest/xml/XmlCharsIsNameStartPinLaw", "agrees", "(I)Z"⟩ : MethodName)) hown (mvT hZ (hw _ (List.mem_of_getElem? (i := 10) rfl))) (mvT hZ (hw _ (List.mem_of_getElem? (i := 11) rfl))) (mvT hZ (hw _ (List.mem_of_getElem? (i := 12) rfl))) (mvT hZ (hw _ (List.mem_of_getElem? (i := 13) rfl))) (by decide) (backOf (W := 0) (rm1 l Z a0 hw [] p0 h33 n0 Z33) hZ (hw _ (List.mem_of_getElem? (i := 13) rfl)) (hw _ (List.mem_of_getElem? (i := 12) rfl)) (by decide) (by decide)) (g := (mkF m 230 #[.val (.int p0), .val (.int p1), .val (.ref b2), .val (.int (p1 &&& (31 : Int32))), .val (.int z219), .val (.int z227)] [(.int p0)])) rfl (by rw [hml]; rfl) (argsL := [(.int p0)]) (rest := []) (lenOf pd_0_0 rfl) rfl (by show 2 * 0 + _ ≤ _; exact Nat.le_of_eq rfl) (hb hby at_230) (fun _ _ => ⟨rfl, e33, (by decide : (0 + 1) + 0 ≤ _), (by decide : (0 + 32) + 0 ≤ _)⟩)
  dsimp only [Pt.U, Pt.locs, Pt.cells, Pt.slots] at X34 l34 y34 z34 st34 hQ34
  subst l34 y34 z34
  obtain ⟨rfl, rfl, e34⟩ := hQ34
  have X34 : Stand p l e room_1 s m #[(.int p0), (.int p1)] below meth c T34 L33 (0 + 1) (0 + 32) := own_flat X34
  refine own_step (st34) ?_
  show own_Goes p.tables e below (T34.setTop (mkF m 233 #[.val (.int p0), .val (.int p1), .val (.ref b2), .val (.int (p1 &&& (31 : Int32))), .val (.int z219), .val (.int z227)] [(.int (own_f1 p0))])) _
  have J258 : ∀ (T_258 : State) (X_258 : Stand p l e room_1 s m #[(.int p0), (.int p1)] below meth c T_258 L33 (0 + 1) (0 + 32)) (e_258 : T_258.heap = h33), own_Goes p.tables e below (T_258.setTop (mkF m 258 #[.val (.int p0), .val (.int p1), .val (.ref b2), .val (.int (p1 &&& (31 : Int32))), .val (.int z219), .val (.int z227)] [])) (own_P s (own_Ql (some (.int (own_f0_258))) n0) 1 32) := by
    intro T_258 X_258 e_258
    refine own_step (fun _ => XS.iconst X_258.here hx rfl (hb hby at_258)) ?_
    show own_Goes p.tables e below (T_258.setTop (mkF m 259 #[.val (.int p0), .val (.int p1), .val (.ref b2), .val (.int (p1 &&& (31 : Int32))), .val (.int z219), .val (.int z227)] [(.int (0 : Int32))])) _
    have hv : (own_f0_258) = (0 : Int32) := by exact rfl
    rw [hv]
    exact own_retN X_258 hx (t := .boolean) Bd.returns (by simp) (hb hby at_259) (BodyLoose.notSynchronized Bd) (w := (0 : Int32)) rfl ⟨rfl, N33⟩ (by decide) (by decide)
  by_cases hc233 : (own_f1 p0) = 0
  · refine own_step (fun _ => XS.ifYes X34.here hx rfl (pc0 := 233) (pc' := 258) rfl (hb hby at_233) rfl (Jvm.Free.XT.i0_eq_t hc233) (by decide) (by decide)) ?_
    show own_Goes p.tables e below (T34.setTop (mkF m 258 #[.val (.int p0), .val (.int p1), .val (.ref b2), .val (.int (p1 &&& (31 : Int32))), .val (.int z219), .val (.int z227)] [])) _
    have hv : (own_f0 p0 p1) = (own_f0_258) := by subst hz227; subst hz219; exact (if_pos hc233)
    rw [hv]
    exact J258 T34 X34 e34
  · refine own_step (fun _ => XS.ifNo X34.here hx rfl (hb hby at_233) rfl (Jvm.Free.XT.i0_eq_f hc233)) ?_
    show own_Goes p.tables e below (T34.setTop (mkF m 236 #[.val (.int p0), .val (.int p1), .val (.ref b2), .val (.int (p1 &&& (31 : Int32))), .val (.int z219), .val (.int z227)] [])) _
    refine own_step (fun _ => XS.iloadN X34.here hx rfl (hb hby at_236) rfl) ?_
    show own_Goes p.tables e below (T34.setTop (mkF m 237 #[.val (.int p0), .val (.int p1), .val (.ref b2), .val (.int (p1 &&& (31 : Int32))), .val (.int z219), .val (.int z227)] [(.int p0)])) _
    refine own_step (X34.ldcInt hx hown (mvT hZ (hw _ (List.mem_of_getElem? (i := 24) rfl))) (g := (mkF m 237 #[.val (.int p0), .val (.int p1), .val (.ref b2), .val (.int (p1 &&& (31 : Int32))), .val (.int z219), .val (.int z227)] [(.int p0)])) rfl (hb hby at_237)) ?_
    show own_Goes p.tables e below (T34.setTop (mkF m 239 #[.val (.int p0), .val (.int p1), .val (.ref b2), .val (.int (p1 &&& (31 : Int32))), .val (.int z219), .val (.int z227)] [(.int (131071 : Int32)), (.int p0)])) _
    refine own_step (fun _ => XS.iand X34.here hx rfl (hb hby at_239) rfl) ?_
    show own_Goes p.tables e below (T34.setTop (mkF m 240 #[.val (.int p0), .val (.int p1), .val (.ref b2), .val (.int (p1 &&& (31 : Int32))), .val (.int z219), .val (.int z227)] [(.int (p0 &&& (131071 : Int32)))])) _
    obtain ⟨_, _, ⟨T35, L35, k35, n35⟩, -, X35, ⟨Lc35, hQ35, l35, y35, z35⟩, st35⟩ := Jvm.LawKit.callS X34 hx (y := (⟨"com/example/unnest/unnest/xml/XmlCharsIsNameStartPinLaw", "agrees", "(I)Z"⟩ : MethodName)) hown (mvT hZ (hw _ (List.mem_of_getElem? (i := 10) rfl))) (mvT hZ (hw _ (List.mem_of_getElem? (i := 11) rfl))) (mvT hZ (hw _ (List.mem_of_getElem? (i := 12) rfl))) (mvT hZ (hw _ (List.mem_of_getElem? (i := 13) rfl))) (by decide) (backOf (W := 0) (rm1 l Z a0 hw [] (p0 &&& (131071 : Int32)) h33 n0 Z33) hZ (hw _ (List.mem_of_getElem? (i := 13) rfl)) (hw _ (List.mem_of_getElem? (i := 12) rfl)) (by decide) (by decide)) (g := (mkF m 240 #[.val (.int p0), .val (.int p1), .val (.ref b2), .val (.int (p1 &&& (31 : Int32))), .val (.int z219), .val (.int z227)] [(.int (p0 &&& (131071 : Int32)))])) rfl (by rw [hml]; rfl) (argsL := [(.int (p0 &&& (131071 : Int32)))]) (rest := []) (lenOf pd_0_0 rfl) rfl (by show 2 * 0 + _ ≤ _; exact Nat.le_of_eq rfl) (hb hby at_240) (fun _ _ => ⟨rfl, e34, (by decide : (0 + 1) + 0 ≤ _), (by decide : (0 + 32) + 0 ≤ _)⟩)
    dsimp only [Pt.U, Pt.locs, Pt.cells, Pt.slots] at X35 l35 y35 z35 st35 hQ35
    subst l35 y35 z35
    obtain ⟨rfl, rfl, e35⟩ := hQ35
    have X35 : Stand p l e room_1 s m #[(.int p0), (.int p1)] below meth c T35 L33 (0 + 1) (0 + 32) := own_flat X35
    refine own_step (st35) ?_
    show own_Goes p.tables e below (T35.setTop (mkF m 243 #[.val (.int p0), .val (.int p1), .val (.ref b2), .val (.int (p1 &&& (31 : Int32))), .val (.int z219), .val (.int z227)] [(.int (own_f1 (p0 &&& (131071 : Int32))))])) _
    by_cases hc243 : (own_f1 (p0 &&& (131071 : Int32))) = 0
    · refine own_step (fun _ => XS.ifYes X35.here hx rfl (pc0 := 243) (pc' := 258) rfl (hb hby at_243) rfl (Jvm.Free.XT.i0_eq_t hc243) (by decide) (by decide)) ?_
      show own_Goes p.tables e below (T35.setTop (mkF m 258 #[.val (.int p0), .val (.int p1), .val (.ref b2), .val (.int (p1 &&& (31 : Int32))), .val (.int z219), .val (.int z227)] [])) _
      have hv : (own_f0 p0 p1) = (own_f0_258) := by subst hz227; subst hz219; exact ((if_neg hc233)).trans (if_pos hc243)
      rw [hv]
      exact J258 T35 X35 e35
    · refine own_step (fun _ => XS.ifNo X35.here hx rfl (hb hby at_243) rfl (Jvm.Free.XT.i0_eq_f hc243)) ?_
      show own_Goes p.tables e below (T35.setTop (mkF m 246 #[.val (.int p0), .val (.int p1), .val (.ref b2), .val (.int (p1 &&& (31 : Int32))), .val (.int z219), .val (.int z227)] [])) _
      refine own_step (fun _ => XS.iload X35.here hx rfl (hb hby at_246) rfl) ?_
      show own_Goes p.tables e below (T35.setTop (mkF m 248 #[.val (.int p0), .val (.int p1), .val (.ref b2), .val (.int (p1 &&& (31 : Int32))), .val (.int z219), .val (.int z227)] [(.int z227)])) _
      obtain ⟨_, _, ⟨T36, L36, k36, n36⟩, -, X36, ⟨Lc36, hQ36, l36, y36, z36⟩, st36⟩ := Jvm.LawKit.callS X35 hx (y := (⟨"com/example/unnest/unnest/xml/XmlCharsIsNameStartPinLaw", "agrees", "(I)Z"⟩ : MethodName)) hown (mvT hZ (hw _ (List.mem_of_getElem? (i := 10) rfl))) (mvT hZ (hw _ (List.mem_of_getElem? (i := 11) rfl))) (mvT hZ (hw _ (List.mem_of_getElem? (i := 12) rfl))) (mvT hZ (hw _ (List.mem_of_getElem? (i := 13) rfl))) (by decide) (backOf (W := 0) (rm1 l Z a0 hw [] z227 h33 n0 Z33) hZ (hw _ (List.mem_of_getElem? (i := 13) rfl)) (hw _ (List.mem_of_getElem? (i := 12) rfl)) (by decide) (by decide)) (g := (mkF m 248 #[.val (.int p0), .val (.int p1), .val (.ref b2), .val (.int (p1 &&& (31 : Int32))), .val (.int z219), .val (.int z227)] [(.int z227)])) rfl (by rw [hml]; rfl) (argsL := [(.int z227)]) (rest := []) (lenOf pd_0_0 rfl) rfl (by show 2 * 0 + _ ≤ _; exact Nat.le_of_eq rfl) (hb hby at_248) (fun _ _ => ⟨rfl, e35, (by decide : (0 + 1) + 0 ≤ _), (by decide : (0 + 32) + 0 ≤ _)⟩)
      dsimp only [Pt.U, Pt.locs, Pt.cells, Pt.slots] at X36 l36 y36 z36 st36 hQ36
      subst l36 y36 z36
      obtain ⟨rfl, rfl, e36⟩ := hQ36
      have X36 : Stand p l e room_1 s m #[(.int p0), (.int p1)] below meth c T36 L33 (0 + 1) (0 + 32) := own_flat X36
      refine own_step (st36) ?_
      show own_Goes p.tables e below (T36.setTop (mkF m 251 #[.val (.int p0), .val (.int p1), .val (.ref b2), .val (.int (p1 &&& (31 : Int32))), .val (.int z219), .val (.int z227)] [(.int (own_f1 z227))])) _
      by_cases hc251 : (own_f1 z227) = 0
      · refine own_step (fun _ => XS.ifYes X36.here hx rfl (pc0 := 251) (pc' := 258) rfl (hb hby at_251) rfl (Jvm.Free.XT.i0_eq_t hc251) (by decide) (by decide)) ?_
        show own_Goes p.tables e below (T36.setTop (mkF m 258 #[.val (.int p0), .val (.int p1), .val (.ref b2), .val (.int (p1 &&& (31 : Int32))), .val (.int z219), .val (.int z227)] [])) _
        have hv : (own_f0 p0 p1) = (own_f0_258) := by subst hz227; subst hz219; exact (((if_neg hc233)).trans (if_neg hc243)).trans (if_pos hc251)
        rw [hv]
        exact J258 T36 X36 e36
      · refine own_step (fun _ => XS.ifNo X36.here hx rfl (hb hby at_251) rfl (Jvm.Free.XT.i0_eq_f hc251)) ?_
        show own_Goes p.tables e below (T36.setTop (mkF m 254 #[.val (.int p0), .val (.int p1), .val (.ref b2), .val (.int (p1 &&& (31 : Int32))), .val (.int z219), .val (.int z227)] [])) _
        refine own_step (fun _ => XS.iconst X36.here hx rfl (hb hby at_254)) ?_
        show own_Goes p.tables e below (T36.setTop (mkF m 255 #[.val (.int p0), .val (.int p1), .val (.ref b2), .val (.int (p1 &&& (31 : Int32))), .val (.int z219), .val (.int z227)] [(.int (1 : Int32))])) _
        refine own_step (fun _ => XS.goto X36.here hx rfl (pc0 := 255) (pc' := 259) rfl (hb hby at_255) (by decide) (by decide)) ?_
        show own_Goes p.tables e below (T36.setTop (mkF m 259 #[.val (.int p0), .val (.int p1), .val (.ref b2), .val (.int (p1 &&& (31 : Int32))), .val (.int z219), .val (.int z227)] [(.int (1 : Int32))])) _
        have hv : (own_f0 p0 p1) = (1 : Int32) := by subst hz227; subst hz219; exact (((if_neg hc233)).trans (if_neg hc243)).trans (if_neg hc251)
        rw [hv]
        exact own_retN X36 hx (t := .boolean) Bd.returns (by simp) (hb hby at_259) (BodyLoose.notSynchronized Bd) (w := (1 : Int32)) rfl ⟨rfl, N33⟩ (by decide) (by decide)
theorem own_10 : ((1 : Int32) = 0) = False := by decide
theorem own_01 : ((0 : Int32) = 1) = False := by decide
theorem own_ltT {c x : Int32} {k : Int} (h : x.toInt = k) (q : c.toInt < k) : c < x := by rw [Int32.lt_iff_toInt_lt, h]; exact q
theorem own_ltF {c x : Int32} {k : Int} (h : x.toInt = k) (q : ¬ c.toInt < k) : ¬ (c < x) := by rw [Int32.lt_iff_toInt_lt, h]; exact q
theorem own_gtT {c x : Int32} {k : Int} (h : x.toInt = k) (q : k < c.toInt) : x < c := by rw [Int32.lt_iff_toInt_lt, h]; exact q
theorem own_gtF {c x : Int32} {k : Int} (h : x.toInt = k) (q : ¬ k < c.toInt) : ¬ (x < c) := by rw [Int32.lt_iff_toInt_lt, h]; exact q
theorem own_eqT {c x : Int32} {k : Int} (h : x.toInt = k) (q : c.toInt = k) : c = x := by rw [← Int32.toInt_inj, h]; exact q
theorem own_eqF {c x : Int32} {k : Int} (h : x.toInt = k) (q : ¬ c.toInt = k) : ¬ (c = x) := by rw [← Int32.toInt_inj, h]; exact q
theorem own_iv_0 (c : Int32) (h2 : c.toInt ≤ 64) : own_f1 c = 1 := by
  have t0 : c < (65 : Int32) := own_ltT (k := 65) rfl (by omega)
  have t1 : c < (91 : Int32) := own_ltT (k := 91) rfl (by omega)
  have t2 : c < (97 : Int32) := own_ltT (k := 97) rfl (by omega)
  have t3 : c < (123 : Int32) := own_ltT (k := 123) rfl (by omega)
  have t4 : c < (192 : Int32) := own_ltT (k := 192) rfl (by omega)
  have t5 : c < (216 : Int32) := own_ltT (k := 216) rfl (by omega)
  have t6 : c < (248 : Int32) := own_ltT (k := 248) rfl (by omega)
  have t7 : c < (768 : Int32) := own_ltT (k := 768) rfl (by omega)
  have t8 : c < (880 : Int32) := own_ltT (k := 880) rfl (by omega)
  have t9 : c < (895 : Int32) := own_ltT (k := 895) rfl (by omega)
  have t10 : c < (8192 : Int32) := own_ltT (k := 8192) rfl (by omega)
  have t11 : c < (8204 : Int32) := own_ltT (k := 8204) rfl (by omega)
  have t12 : c < (8206 : Int32) := own_ltT (k := 8206) rfl (by omega)
  have t13 : c < (8304 : Int32) := own_ltT (k := 8304) rfl (by omega)
  have t14 : c < (8592 : Int32) := own_ltT (k := 8592) rfl (by omega)
  have t15 : c < (11264 : Int32) := own_ltT (k := 11264) rfl (by omega)
  have t16 : c < (12272 : Int32) := own_ltT (k := 12272) rfl (by omega)
  have t17 : c < (12289 : Int32) := own_ltT (k := 12289) rfl (by omega)
  have t18 : c < (55296 : Int32) := own_ltT (k := 55296) rfl (by omega)
  have t19 : c < (63744 : Int32) := own_ltT (k := 63744) rfl (by omega)
  have t20 : c < (64976 : Int32) := own_ltT (k := 64976) rfl (by omega)
  have t21 : c < (65008 : Int32) := own_ltT (k := 65008) rfl (by omega)
  have t22 : c < (65534 : Int32) := own_ltT (k := 65534) rfl (by omega)
  have t23 : c < (65536 : Int32) := own_ltT (k := 65536) rfl (by omega)
  have t24 : ¬ (c = (95 : Int32)) := own_eqF (k := 95) rfl (by omega)
  have t25 : ¬ (c = (96 : Int32)) := own_eqF (k := 96) rfl (by omega)
  have t26 : ¬ (c = (215 : Int32)) := own_eqF (k := 215) rfl (by omega)
  have t27 : ¬ (c = (247 : Int32)) := own_eqF (k := 247) rfl (by omega)
  have t28 : ¬ (c = (894 : Int32)) := own_eqF (k := 894) rfl (by omega)
  have t29 : ¬ ((90 : Int32) < c) := own_gtF (k := 90) rfl (by omega)
  have t30 : ¬ ((94 : Int32) < c) := own_gtF (k := 94) rfl (by omega)
  have t31 : ¬ ((122 : Int32) < c) := own_gtF (k := 122) rfl (by omega)
  have t32 : ¬ ((191 : Int32) < c) := own_gtF (k := 191) rfl (by omega)
  have t33 : ¬ ((214 : Int32) < c) := own_gtF (k := 214) rfl (by omega)
  have t34 : ¬ ((246 : Int32) < c) := own_gtF (k := 246) rfl (by omega)
  have t35 : ¬ ((767 : Int32) < c) := own_gtF (k := 767) rfl (by omega)
  have t36 : ¬ ((879 : Int32) < c) := own_gtF (k := 879) rfl (by omega)
  have t37 : ¬ ((893 : Int32) < c) := own_gtF (k := 893) rfl (by omega)
  have t38 : ¬ ((8191 : Int32) < c) := own_gtF (k := 8191) rfl (by omega)
  have t39 : ¬ ((8203 : Int32) < c) := own_gtF (k := 8203) rfl (by omega)
  have t40 : ¬ ((8205 : Int32) < c) := own_gtF (k := 8205) rfl (by omega)
  have t41 : ¬ ((8303 : Int32) < c) := own_gtF (k := 8303) rfl (by omega)
  have t42 : ¬ ((8591 : Int32) < c) := own_gtF (k := 8591) rfl (by omega)
  have t43 : ¬ ((11263 : Int32) < c) := own_gtF (k := 11263) rfl (by omega)
  have t44 : ¬ ((12271 : Int32) < c) := own_gtF (k := 12271) rfl (by omega)
  have t45 : ¬ ((12288 : Int32) < c) := own_gtF (k := 12288) rfl (by omega)
  have t46 : ¬ ((55295 : Int32) < c) := own_gtF (k := 55295) rfl (by omega)
  have t47 : ¬ ((63743 : Int32) < c) := own_gtF (k := 63743) rfl (by omega)
  have t48 : ¬ ((64975 : Int32) < c) := own_gtF (k := 64975) rfl (by omega)
  have t49 : ¬ ((65007 : Int32) < c) := own_gtF (k := 65007) rfl (by omega)
  have t50 : ¬ ((65533 : Int32) < c) := own_gtF (k := 65533) rfl (by omega)
  have t51 : ¬ ((65535 : Int32) < c) := own_gtF (k := 65535) rfl (by omega)
  have t52 : ¬ ((983039 : Int32) < c) := own_gtF (k := 983039) rfl (by omega)
  simp only [own_f1_16, own_f1, own_f2_191, own_f2_195, own_f2_179, own_f2_167, own_f2_155, own_f2_142, own_f2_128, own_f2_114, own_f2_100, own_f2_86, own_f2_72, own_f2_58, own_f2_44, own_f2_24, own_f2_12, own_f2, own_f3_12, own_f3_65, own_f3_198, own_f3_184, own_f3_170, own_f3_156, own_f3_140, own_f3_124, own_f3_108, own_f3_83, own_f3_51, own_f3_28, own_f3, t0, t1, t2, t3, t4, t5, t6, t7, t8, t9, t10, t11, t12, t13, t14, t15, t16, t17, t18, t19, t20, t21, t22, t23, t24, t25, t26, t27, t28, t29, t30, t31, t32, t33, t34, t35, t36, t37, t38, t39, t40, t41, t42, t43, t44, t45, t46, t47, t48, t49, t50, t51, t52, own_10, own_01, ↓reduceIte]
theorem own_iv_1 (c : Int32) (h1 : 65 ≤ c.toInt) (h2 : c.toInt ≤ 90) : own_f1 c = 1 := by
  have t0 : ¬ (c < (65 : Int32)) := own_ltF (k := 65) rfl (by omega)
  have t1 : c < (91 : Int32) := own_ltT (k := 91) rfl (by omega)
  have t2 : c < (97 : Int32) := own_ltT (k := 97) rfl (by omega)
  have t3 : c < (123 : Int32) := own_ltT (k := 123) rfl (by omega)
  have t4 : c < (192 : Int32) := own_ltT (k := 192) rfl (by omega)
  have t5 : c < (216 : Int32) := own_ltT (k := 216) rfl (by omega)
  have t6 : c < (248 : Int32) := own_ltT (k := 248) rfl (by omega)
  have t7 : c < (768 : Int32) := own_ltT (k := 768) rfl (by omega)
  have t8 : c < (880 : Int32) := own_ltT (k := 880) rfl (by omega)
  have t9 : c < (895 : Int32) := own_ltT (k := 895) rfl (by omega)
  have t10 : c < (8192 : Int32) := own_ltT (k := 8192) rfl (by omega)
  have t11 : c < (8204 : Int32) := own_ltT (k := 8204) rfl (by omega)
  have t12 : c < (8206 : Int32) := own_ltT (k := 8206) rfl (by omega)
  have t13 : c < (8304 : Int32) := own_ltT (k := 8304) rfl (by omega)
  have t14 : c < (8592 : Int32) := own_ltT (k := 8592) rfl (by omega)
  have t15 : c < (11264 : Int32) := own_ltT (k := 11264) rfl (by omega)
  have t16 : c < (12272 : Int32) := own_ltT (k := 12272) rfl (by omega)
  have t17 : c < (12289 : Int32) := own_ltT (k := 12289) rfl (by omega)
  have t18 : c < (55296 : Int32) := own_ltT (k := 55296) rfl (by omega)
  have t19 : c < (63744 : Int32) := own_ltT (k := 63744) rfl (by omega)
  have t20 : c < (64976 : Int32) := own_ltT (k := 64976) rfl (by omega)
  have t21 : c < (65008 : Int32) := own_ltT (k := 65008) rfl (by omega)
  have t22 : c < (65534 : Int32) := own_ltT (k := 65534) rfl (by omega)
  have t23 : c < (65536 : Int32) := own_ltT (k := 65536) rfl (by omega)
  have t24 : ¬ (c = (95 : Int32)) := own_eqF (k := 95) rfl (by omega)
  have t25 : ¬ (c = (96 : Int32)) := own_eqF (k := 96) rfl (by omega)
  have t26 : ¬ (c = (215 : Int32)) := own_eqF (k := 215) rfl (by omega)
  have t27 : ¬ (c = (247 : Int32)) := own_eqF (k := 247) rfl (by omega)
  have t28 : ¬ (c = (894 : Int32)) := own_eqF (k := 894) rfl (by omega)
  have t29 : ¬ ((90 : Int32) < c) := own_gtF (k := 90) rfl (by omega)
  have t30 : ¬ ((94 : Int32) < c) := own_gtF (k := 94) rfl (by omega)
  have t31 : ¬ ((122 : Int32) < c) := own_gtF (k := 122) rfl (by omega)
  have t32 : ¬ ((191 : Int32) < c) := own_gtF (k := 191) rfl (by omega)
  have t33 : ¬ ((214 : Int32) < c) := own_gtF (k := 214) rfl (by omega)
  have t34 : ¬ ((246 : Int32) < c) := own_gtF (k := 246) rfl (by omega)
  have t35 : ¬ ((767 : Int32) < c) := own_gtF (k := 767) rfl (by omega)
  have t36 : ¬ ((879 : Int32) < c) := own_gtF (k := 879) rfl (by omega)
  have t37 : ¬ ((893 : Int32) < c) := own_gtF (k := 893) rfl (by omega)
  have t38 : ¬ ((8191 : Int32) < c) := own_gtF (k := 8191) rfl (by omega)
  have t39 : ¬ ((8203 : Int32) < c) := own_gtF (k := 8203) rfl (by omega)
  have t40 : ¬ ((8205 : Int32) < c) := own_gtF (k := 8205) rfl (by omega)
  have t41 : ¬ ((8303 : Int32) < c) := own_gtF (k := 8303) rfl (by omega)
  have t42 : ¬ ((8591 : Int32) < c) := own_gtF (k := 8591) rfl (by omega)
  have t43 : ¬ ((11263 : Int32) < c) := own_gtF (k := 11263) rfl (by omega)
  have t44 : ¬ ((12271 : Int32) < c) := own_gtF (k := 12271) rfl (by omega)
  have t45 : ¬ ((12288 : Int32) < c) := own_gtF (k := 12288) rfl (by omega)
  have t46 : ¬ ((55295 : Int32) < c) := own_gtF (k := 55295) rfl (by omega)
  have t47 : ¬ ((63743 : Int32) < c) := own_gtF (k := 63743) rfl (by omega)
  have t48 : ¬ ((64975 : Int32) < c) := own_gtF (k := 64975) rfl (by omega)
  have t49 : ¬ ((65007 : Int32) < c) := own_gtF (k := 65007) rfl (by omega)
  have t50 : ¬ ((65533 : Int32) < c) := own_gtF (k := 65533) rfl (by omega)
  have t51 : ¬ ((65535 : Int32) < c) := own_gtF (k := 65535) rfl (by omega)
  have t52 : ¬ ((983039 : Int32) < c) := own_gtF (k := 983039) rfl (by omega)
  simp only [own_f1_16, own_f1, own_f2_191, own_f2_195, own_f2_179, own_f2_167, own_f2_155, own_f2_142, own_f2_128, own_f2_114, own_f2_100, own_f2_86, own_f2_72, own_f2_58, own_f2_44, own_f2_24, own_f2_12, own_f2, own_f3_12, own_f3_65, own_f3_198, own_f3_184, own_f3_170, own_f3_156, own_f3_140, own_f3_124, own_f3_108, own_f3_83, own_f3_51, own_f3_28, own_f3, t0, t1, t2, t3, t4, t5, t6, t7, t8, t9, t10, t11, t12, t13, t14, t15, t16, t17, t18, t19, t20, t21, t22, t23, t24, t25, t26, t27, t28, t29, t30, t31, t32, t33, t34, t35, t36, t37, t38, t39, t40, t41, t42, t43, t44, t45, t46, t47, t48, t49, t50, t51, t52, own_10, own_01, ↓reduceIte]
theorem own_iv_2 (c : Int32) (h1 : 91 ≤ c.toInt) (h2 : c.toInt ≤ 94) : own_f1 c = 1 := by
  have t0 : ¬ (c < (65 : Int32)) := own_ltF (k := 65) rfl (by omega)
  have t1 : ¬ (c < (91 : Int32)) := own_ltF (k := 91) rfl (by omega)
  have t2 : c < (97 : Int32) := own_ltT (k := 97) rfl (by omega)
  have t3 : c < (123 : Int32) := own_ltT (k := 123) rfl (by omega)
  have t4 : c < (192 : Int32) := own_ltT (k := 192) rfl (by omega)
  have t5 : c < (216 : Int32) := own_ltT (k := 216) rfl (by omega)
  have t6 : c < (248 : Int32) := own_ltT (k := 248) rfl (by omega)
  have t7 : c < (768 : Int32) := own_ltT (k := 768) rfl (by omega)
  have t8 : c < (880 : Int32) := own_ltT (k := 880) rfl (by omega)
  have t9 : c < (895 : Int32) := own_ltT (k := 895) rfl (by omega)
  have t10 : c < (8192 : Int32) := own_ltT (k := 8192) rfl (by omega)
  have t11 : c < (8204 : Int32) := own_ltT (k := 8204) rfl (by omega)
  have t12 : c < (8206 : Int32) := own_ltT (k := 8206) rfl (by omega)
  have t13 : c < (8304 : Int32) := own_ltT (k := 8304) rfl (by omega)
  have t14 : c < (8592 : Int32) := own_ltT (k := 8592) rfl (by omega)
  have t15 : c < (11264 : Int32) := own_ltT (k := 11264) rfl (by omega)
  have t16 : c < (12272 : Int32) := own_ltT (k := 12272) rfl (by omega)
  have t17 : c < (12289 : Int32) := own_ltT (k := 12289) rfl (by omega)
  have t18 : c < (55296 : Int32) := own_ltT (k := 55296) rfl (by omega)
  have t19 : c < (63744 : Int32) := own_ltT (k := 63744) rfl (by omega)
  have t20 : c < (64976 : Int32) := own_ltT (k := 64976) rfl (by omega)
  have t21 : c < (65008 : Int32) := own_ltT (k := 65008) rfl (by omega)
  have t22 : c < (65534 : Int32) := own_ltT (k := 65534) rfl (by omega)
  have t23 : c < (65536 : Int32) := own_ltT (k := 65536) rfl (by omega)
  have t24 : ¬ (c = (95 : Int32)) := own_eqF (k := 95) rfl (by omega)
  have t25 : ¬ (c = (96 : Int32)) := own_eqF (k := 96) rfl (by omega)
  have t26 : ¬ (c = (215 : Int32)) := own_eqF (k := 215) rfl (by omega)
  have t27 : ¬ (c = (247 : Int32)) := own_eqF (k := 247) rfl (by omega)
  have t28 : ¬ (c = (894 : Int32)) := own_eqF (k := 894) rfl (by omega)
  have t29 : (90 : Int32) < c := own_gtT (k := 90) rfl (by omega)
  have t30 : ¬ ((94 : Int32) < c) := own_gtF (k := 94) rfl (by omega)
  have t31 : ¬ ((122 : Int32) < c) := own_gtF (k := 122) rfl (by omega)
  have t32 : ¬ ((191 : Int32) < c) := own_gtF (k := 191) rfl (by omega)
  have t33 : ¬ ((214 : Int32) < c) := own_gtF (k := 214) rfl (by omega)
  have t34 : ¬ ((246 : Int32) < c) := own_gtF (k := 246) rfl (by omega)
  have t35 : ¬ ((767 : Int32) < c) := own_gtF (k := 767) rfl (by omega)
  have t36 : ¬ ((879 : Int32) < c) := own_gtF (k := 879) rfl (by omega)
  have t37 : ¬ ((893 : Int32) < c) := own_gtF (k := 893) rfl (by omega)
  have t38 : ¬ ((8191 : Int32) < c) := own_gtF (k := 8191) rfl (by omega)
  have t39 : ¬ ((8203 : Int32) < c) := own_gtF (k := 8203) rfl (by omega)
  have t40 : ¬ ((8205 : Int32) < c) := own_gtF (k := 8205) rfl (by omega)
  have t41 : ¬ ((8303 : Int32) < c) := own_gtF (k := 8303) rfl (by omega)
  have t42 : ¬ ((8591 : Int32) < c) := own_gtF (k := 8591) rfl (by omega)
  have t43 : ¬ ((11263 : Int32) < c) := own_gtF (k := 11263) rfl (by omega)
  have t44 : ¬ ((12271 : Int32) < c) := own_gtF (k := 12271) rfl (by omega)
  have t45 : ¬ ((12288 : Int32) < c) := own_gtF (k := 12288) rfl (by omega)
  have t46 : ¬ ((55295 : Int32) < c) := own_gtF (k := 55295) rfl (by omega)
  have t47 : ¬ ((63743 : Int32) < c) := own_gtF (k := 63743) rfl (by omega)
  have t48 : ¬ ((64975 : Int32) < c) := own_gtF (k := 64975) rfl (by omega)
  have t49 : ¬ ((65007 : Int32) < c) := own_gtF (k := 65007) rfl (by omega)
  have t50 : ¬ ((65533 : Int32) < c) := own_gtF (k := 65533) rfl (by omega)
  have t51 : ¬ ((65535 : Int32) < c) := own_gtF (k := 65535) rfl (by omega)
  have t52 : ¬ ((983039 : Int32) < c) := own_gtF (k := 983039) rfl (by omega)
  simp only [own_f1_16, own_f1, own_f2_191, own_f2_195, own_f2_179, own_f2_167, own_f2_155, own_f2_142, own_f2_128, own_f2_114, own_f2_100, own_f2_86, own_f2_72, own_f2_58, own_f2_44, own_f2_24, own_f2_12, own_f2, own_f3_12, own_f3_65, own_f3_198, own_f3_184, own_f3_170, own_f3_156, own_f3_140, own_f3_124, own_f3_108, own_f3_83, own_f3_51, own_f3_28, own_f3, t0, t1, t2, t3, t4, t5, t6, t7, t8, t9, t10, t11, t12, t13, t14, t15, t16, t17, t18, t19, t20, t21, t22, t23, t24, t25, t26, t27, t28, t29, t30, t31, t32, t33, t34, t35, t36, t37, t38, t39, t40, t41, t42, t43, t44, t45, t46, t47, t48, t49, t50, t51, t52, own_10, own_01, ↓reduceIte]
theorem own_iv_3 (c : Int32) (h1 : 95 ≤ c.toInt) (h2 : c.toInt ≤ 95) : own_f1 c = 1 := by
  have e : c = (95 : Int32) := own_eqT (k := 95) rfl (by omega)
  subst e
  decide +kernel
theorem own_iv_4 (c : Int32) (h1 : 96 ≤ c.toInt) (h2 : c.toInt ≤ 96) : own_f1 c = 1 := by
  have e : c = (96 : Int32) := own_eqT (k := 96) rfl (by omega)
  subst e
  decide +kernel
theorem own_iv_5 (c : Int32) (h1 : 97 ≤ c.toInt) (h2 : c.toInt ≤ 122) : own_f1 c = 1 := by
  have t0 : ¬ (c < (65 : Int32)) := own_ltF (k := 65) rfl (by omega)
  have t1 : ¬ (c < (91 : Int32)) := own_ltF (k := 91) rfl (by omega)
  have t2 : ¬ (c < (97 : Int32)) := own_ltF (k := 97) rfl (by omega)
  have t3 : c < (123 : Int32) := own_ltT (k := 123) rfl (by omega)
  have t4 : c < (192 : Int32) := own_ltT (k := 192) rfl (by omega)
  have t5 : c < (216 : Int32) := own_ltT (k := 216) rfl (by omega)
  have t6 : c < (248 : Int32) := own_ltT (k := 248) rfl (by omega)
  have t7 : c < (768 : Int32) := own_ltT (k := 768) rfl (by omega)
  have t8 : c < (880 : Int32) := own_ltT (k := 880) rfl (by omega)
  have t9 : c < (895 : Int32) := own_ltT (k := 895) rfl (by omega)
  have t10 : c < (8192 : Int32) := own_ltT (k := 8192) rfl (by omega)
  have t11 : c < (8204 : Int32) := own_ltT (k := 8204) rfl (by omega)
  have t12 : c < (8206 : Int32) := own_ltT (k := 8206) rfl (by omega)
  have t13 : c < (8304 : Int32) := own_ltT (k := 8304) rfl (by omega)
  have t14 : c < (8592 : Int32) := own_ltT (k := 8592) rfl (by omega)
  have t15 : c < (11264 : Int32) := own_ltT (k := 11264) rfl (by omega)
  have t16 : c < (12272 : Int32) := own_ltT (k := 12272) rfl (by omega)
  have t17 : c < (12289 : Int32) := own_ltT (k := 12289) rfl (by omega)
  have t18 : c < (55296 : Int32) := own_ltT (k := 55296) rfl (by omega)
  have t19 : c < (63744 : Int32) := own_ltT (k := 63744) rfl (by omega)
  have t20 : c < (64976 : Int32) := own_ltT (k := 64976) rfl (by omega)
  have t21 : c < (65008 : Int32) := own_ltT (k := 65008) rfl (by omega)
  have t22 : c < (65534 : Int32) := own_ltT (k := 65534) rfl (by omega)
  have t23 : c < (65536 : Int32) := own_ltT (k := 65536) rfl (by omega)
  have t24 : ¬ (c = (95 : Int32)) := own_eqF (k := 95) rfl (by omega)
  have t25 : ¬ (c = (96 : Int32)) := own_eqF (k := 96) rfl (by omega)
  have t26 : ¬ (c = (215 : Int32)) := own_eqF (k := 215) rfl (by omega)
  have t27 : ¬ (c = (247 : Int32)) := own_eqF (k := 247) rfl (by omega)
  have t28 : ¬ (c = (894 : Int32)) := own_eqF (k := 894) rfl (by omega)
  have t29 : (90 : Int32) < c := own_gtT (k := 90) rfl (by omega)
  have t30 : (94 : Int32) < c := own_gtT (k := 94) rfl (by omega)
  have t31 : ¬ ((122 : Int32) < c) := own_gtF (k := 122) rfl (by omega)
  have t32 : ¬ ((191 : Int32) < c) := own_gtF (k := 191) rfl (by omega)
  have t33 : ¬ ((214 : Int32) < c) := own_gtF (k := 214) rfl (by omega)
  have t34 : ¬ ((246 : Int32) < c) := own_gtF (k := 246) rfl (by omega)
  have t35 : ¬ ((767 : Int32) < c) := own_gtF (k := 767) rfl (by omega)
  have t36 : ¬ ((879 : Int32) < c) := own_gtF (k := 879) rfl (by omega)
  have t37 : ¬ ((893 : Int32) < c) := own_gtF (k := 893) rfl (by omega)
  have t38 : ¬ ((8191 : Int32) < c) := own_gtF (k := 8191) rfl (by omega)
  have t39 : ¬ ((8203 : Int32) < c) := own_gtF (k := 8203) rfl (by omega)
  have t40 : ¬ ((8205 : Int32) < c) := own_gtF (k := 8205) rfl (by omega)
  have t41 : ¬ ((8303 : Int32) < c) := own_gtF (k := 8303) rfl (by omega)
  have t42 : ¬ ((8591 : Int32) < c) := own_gtF (k := 8591) rfl (by omega)
  have t43 : ¬ ((11263 : Int32) < c) := own_gtF (k := 11263) rfl (by omega)
  have t44 : ¬ ((12271 : Int32) < c) := own_gtF (k := 12271) rfl (by omega)
  have t45 : ¬ ((12288 : Int32) < c) := own_gtF (k := 12288) rfl (by omega)
  have t46 : ¬ ((55295 : Int32) < c) := own_gtF (k := 55295) rfl (by omega)
  have t47 : ¬ ((63743 : Int32) < c) := own_gtF (k := 63743) rfl (by omega)
  have t48 : ¬ ((64975 : Int32) < c) := own_gtF (k := 64975) rfl (by omega)
  have t49 : ¬ ((65007 : Int32) < c) := own_gtF (k := 65007) rfl (by omega)
  have t50 : ¬ ((65533 : Int32) < c) := own_gtF (k := 65533) rfl (by omega)
  have t51 : ¬ ((65535 : Int32) < c) := own_gtF (k := 65535) rfl (by omega)
  have t52 : ¬ ((983039 : Int32) < c) := own_gtF (k := 983039) rfl (by omega)
  simp only [own_f1_16, own_f1, own_f2_191, own_f2_195, own_f2_179, own_f2_167, own_f2_155, own_f2_142, own_f2_128, own_f2_114, own_f2_100, own_f2_86, own_f2_72, own_f2_58, own_f2_44, own_f2_24, own_f2_12, own_f2, own_f3_12, own_f3_65, own_f3_198, own_f3_184, own_f3_170, own_f3_156, own_f3_140, own_f3_124, own_f3_108, own_f3_83, own_f3_51, own_f3_28, own_f3, t0, t1, t2, t3, t4, t5, t6, t7, t8, t9, t10, t11, t12, t13, t14, t15, t16, t17, t18, t19, t20, t21, t22, t23, t24, t25, t26, t27, t28, t29, t30, t31, t32, t33, t34, t35, t36, t37, t38, t39, t40, t41, t42, t43, t44, t45, t46, t47, t48, t49, t50, t51, t52, own_10, own_01, ↓reduceIte]
theorem own_iv_6 (c : Int32) (h1 : 123 ≤ c.toInt) (h2 : c.toInt ≤ 191) : own_f1 c = 1 := by
  have t0 : ¬ (c < (65 : Int32)) := own_ltF (k := 65) rfl (by omega)
  have t1 : ¬ (c < (91 : Int32)) := own_ltF (k := 91) rfl (by omega)
  have t2 : ¬ (c < (97 : Int32)) := own_ltF (k := 97) rfl (by omega)
  have t3 : ¬ (c < (123 : Int32)) := own_ltF (k := 123) rfl (by omega)
  have t4 : c < (192 : Int32) := own_ltT (k := 192) rfl (by omega)
  have t5 : c < (216 : Int32) := own_ltT (k := 216) rfl (by omega)
  have t6 : c < (248 : Int32) := own_ltT (k := 248) rfl (by omega)
  have t7 : c < (768 : Int32) := own_ltT (k := 768) rfl (by omega)
  have t8 : c < (880 : Int32) := own_ltT (k := 880) rfl (by omega)
  have t9 : c < (895 : Int32) := own_ltT (k := 895) rfl (by omega)
  have t10 : c < (8192 : Int32) := own_ltT (k := 8192) rfl (by omega)
  have t11 : c < (8204 : Int32) := own_ltT (k := 8204) rfl (by omega)
  have t12 : c < (8206 : Int32) := own_ltT (k := 8206) rfl (by omega)
  have t13 : c < (8304 : Int32) := own_ltT (k := 8304) rfl (by omega)
  have t14 : c < (8592 : Int32) := own_ltT (k := 8592) rfl (by omega)
  have t15 : c < (11264 : Int32) := own_ltT (k := 11264) rfl (by omega)
  have t16 : c < (12272 : Int32) := own_ltT (k := 12272) rfl (by omega)
  have t17 : c < (12289 : Int32) := own_ltT (k := 12289) rfl (by omega)
  have t18 : c < (55296 : Int32) := own_ltT (k := 55296) rfl (by omega)
  have t19 : c < (63744 : Int32) := own_ltT (k := 63744) rfl (by omega)
  have t20 : c < (64976 : Int32) := own_ltT (k := 64976) rfl (by omega)
  have t21 : c < (65008 : Int32) := own_ltT (k := 65008) rfl (by omega)
  have t22 : c < (65534 : Int32) := own_ltT (k := 65534) rfl (by omega)
  have t23 : c < (65536 : Int32) := own_ltT (k := 65536) rfl (by omega)
  have t24 : ¬ (c = (95 : Int32)) := own_eqF (k := 95) rfl (by omega)
  have t25 : ¬ (c = (96 : Int32)) := own_eqF (k := 96) rfl (by omega)
  have t26 : ¬ (c = (215 : Int32)) := own_eqF (k := 215) rfl (by omega)
  have t27 : ¬ (c = (247 : Int32)) := own_eqF (k := 247) rfl (by omega)
  have t28 : ¬ (c = (894 : Int32)) := own_eqF (k := 894) rfl (by omega)
  have t29 : (90 : Int32) < c := own_gtT (k := 90) rfl (by omega)
  have t30 : (94 : Int32) < c := own_gtT (k := 94) rfl (by omega)
  have t31 : (122 : Int32) < c := own_gtT (k := 122) rfl (by omega)
  have t32 : ¬ ((191 : Int32) < c) := own_gtF (k := 191) rfl (by omega)
  have t33 : ¬ ((214 : Int32) < c) := own_gtF (k := 214) rfl (by omega)
  have t34 : ¬ ((246 : Int32) < c) := own_gtF (k := 246) rfl (by omega)
  have t35 : ¬ ((767 : Int32) < c) := own_gtF (k := 767) rfl (by omega)
  have t36 : ¬ ((879 : Int32) < c) := own_gtF (k := 879) rfl (by omega)
  have t37 : ¬ ((893 : Int32) < c) := own_gtF (k := 893) rfl (by omega)
  have t38 : ¬ ((8191 : Int32) < c) := own_gtF (k := 8191) rfl (by omega)
  have t39 : ¬ ((8203 : Int32) < c) := own_gtF (k := 8203) rfl (by omega)
  have t40 : ¬ ((8205 : Int32) < c) := own_gtF (k := 8205) rfl (by omega)
  have t41 : ¬ ((8303 : Int32) < c) := own_gtF (k := 8303) rfl (by omega)
  have t42 : ¬ ((8591 : Int32) < c) := own_gtF (k := 8591) rfl (by omega)
  have t43 : ¬ ((11263 : Int32) < c) := own_gtF (k := 11263) rfl (by omega)
  have t44 : ¬ ((12271 : Int32) < c) := own_gtF (k := 12271) rfl (by omega)
  have t45 : ¬ ((12288 : Int32) < c) := own_gtF (k := 12288) rfl (by omega)
  have t46 : ¬ ((55295 : Int32) < c) := own_gtF (k := 55295) rfl (by omega)
  have t47 : ¬ ((63743 : Int32) < c) := own_gtF (k := 63743) rfl (by omega)
  have t48 : ¬ ((64975 : Int32) < c) := own_gtF (k := 64975) rfl (by omega)
  have t49 : ¬ ((65007 : Int32) < c) := own_gtF (k := 65007) rfl (by omega)
  have t50 : ¬ ((65533 : Int32) < c) := own_gtF (k := 65533) rfl (by omega)
  have t51 : ¬ ((65535 : Int32) < c) := own_gtF (k := 65535) rfl (by omega)
  have t52 : ¬ ((983039 : Int32) < c) := own_gtF (k := 983039) rfl (by omega)
  simp only [own_f1_16, own_f1, own_f2_191, own_f2_195, own_f2_179, own_f2_167, own_f2_155, own_f2_142, own_f2_128, own_f2_114, own_f2_100, own_f2_86, own_f2_72, own_f2_58, own_f2_44, own_f2_24, own_f2_12, own_f2, own_f3_12, own_f3_65, own_f3_198, own_f3_184, own_f3_170, own_f3_156, own_f3_140, own_f3_124, own_f3_108, own_f3_83, own_f3_51, own_f3_28, own_f3, t0, t1, t2, t3, t4, t5, t6, t7, t8, t9, t10, t11, t12, t13, t14, t15, t16, t17, t18, t19, t20, t21, t22, t23, t24, t25, t26, t27, t28, t29, t30, t31, t32, t33, t34, t35, t36, t37, t38, t39, t40, t41, t42, t43, t44, t45, t46, t47, t48, t49, t50, t51, t52, own_10, own_01, ↓reduceIte]
theorem own_iv_7 (c : Int32) (h1 : 192 ≤ c.toInt) (h2 : c.toInt ≤ 214) : own_f1 c = 1 := by
  have t0 : ¬ (c < (65 : Int32)) := own_ltF (k := 65) rfl (by omega)
  have t1 : ¬ (c < (91 : Int32)) := own_ltF (k := 91) rfl (by omega)
  have t2 : ¬ (c < (97 : Int32)) := own_ltF (k := 97) rfl (by omega)
  have t3 : ¬ (c < (123 : Int32)) := own_ltF (k := 123) rfl (by omega)
  have t4 : ¬ (c < (192 : Int32)) := own_ltF (k := 192) rfl (by omega)
  have t5 : c < (216 : Int32) := own_ltT (k := 216) rfl (by omega)
  have t6 : c < (248 : Int32) := own_ltT (k := 248) rfl (by omega)
  have t7 : c < (768 : Int32) := own_ltT (k := 768) rfl (by omega)
  have t8 : c < (880 : Int32) := own_ltT (k := 880) rfl (by omega)
  have t9 : c < (895 : Int32) := own_ltT (k := 895) rfl (by omega)
  have t10 : c < (8192 : Int32) := own_ltT (k := 8192) rfl (by omega)
  have t11 : c < (8204 : Int32) := own_ltT (k := 8204) rfl (by omega)
  have t12 : c < (8206 : Int32) := own_ltT (k := 8206) rfl (by omega)
  have t13 : c < (8304 : Int32) := own_ltT (k := 8304) rfl (by omega)
  have t14 : c < (8592 : Int32) := own_ltT (k := 8592) rfl (by omega)
  have t15 : c < (11264 : Int32) := own_ltT (k := 11264) rfl (by omega)
  have t16 : c < (12272 : Int32) := own_ltT (k := 12272) rfl (by omega)
  have t17 : c < (12289 : Int32) := own_ltT (k := 12289) rfl (by omega)
  have t18 : c < (55296 : Int32) := own_ltT (k := 55296) rfl (by omega)
  have t19 : c < (63744 : Int32) := own_ltT (k := 63744) rfl (by omega)
  have t20 : c < (64976 : Int32) := own_ltT (k := 64976) rfl (by omega)
  have t21 : c < (65008 : Int32) := own_ltT (k := 65008) rfl (by omega)
  have t22 : c < (65534 : Int32) := own_ltT (k := 65534) rfl (by omega)
  have t23 : c < (65536 : Int32) := own_ltT (k := 65536) rfl (by omega)
  have t24 : ¬ (c = (95 : Int32)) := own_eqF (k := 95) rfl (by omega)
  have t25 : ¬ (c = (96 : Int32)) := own_eqF (k := 96) rfl (by omega)
  have t26 : ¬ (c = (215 : Int32)) := own_eqF (k := 215) rfl (by omega)
  have t27 : ¬ (c = (247 : Int32)) := own_eqF (k := 247) rfl (by omega)
  have t28 : ¬ (c = (894 : Int32)) := own_eqF (k := 894) rfl (by omega)
  have t29 : (90 : Int32) < c := own_gtT (k := 90) rfl (by omega)
  have t30 : (94 : Int32) < c := own_gtT (k := 94) rfl (by omega)
  have t31 : (122 : Int32) < c := own_gtT (k := 122) rfl (by omega)
  have t32 : (191 : Int32) < c := own_gtT (k := 191) rfl (by omega)
  have t33 : ¬ ((214 : Int32) < c) := own_gtF (k := 214) rfl (by omega)
  have t34 : ¬ ((246 : Int32) < c) := own_gtF (k := 246) rfl (by omega)
  have t35 : ¬ ((767 : Int32) < c) := own_gtF (k := 767) rfl (by omega)
  have t36 : ¬ ((879 : Int32) < c) := own_gtF (k := 879) rfl (by omega)
  have t37 : ¬ ((893 : Int32) < c) := own_gtF (k := 893) rfl (by omega)
  have t38 : ¬ ((8191 : Int32) < c) := own_gtF (k := 8191) rfl (by omega)
  have t39 : ¬ ((8203 : Int32) < c) := own_gtF (k := 8203) rfl (by omega)
  have t40 : ¬ ((8205 : Int32) < c) := own_gtF (k := 8205) rfl (by omega)
  have t41 : ¬ ((8303 : Int32) < c) := own_gtF (k := 8303) rfl (by omega)
  have t42 : ¬ ((8591 : Int32) < c) := own_gtF (k := 8591) rfl (by omega)
  have t43 : ¬ ((11263 : Int32) < c) := own_gtF (k := 11263) rfl (by omega)
  have t44 : ¬ ((12271 : Int32) < c) := own_gtF (k := 12271) rfl (by omega)
  have t45 : ¬ ((12288 : Int32) < c) := own_gtF (k := 12288) rfl (by omega)
  have t46 : ¬ ((55295 : Int32) < c) := own_gtF (k := 55295) rfl (by omega)
  have t47 : ¬ ((63743 : Int32) < c) := own_gtF (k := 63743) rfl (by omega)
  have t48 : ¬ ((64975 : Int32) < c) := own_gtF (k := 64975) rfl (by omega)
  have t49 : ¬ ((65007 : Int32) < c) := own_gtF (k := 65007) rfl (by omega)
  have t50 : ¬ ((65533 : Int32) < c) := own_gtF (k := 65533) rfl (by omega)
  have t51 : ¬ ((65535 : Int32) < c) := own_gtF (k := 65535) rfl (by omega)
  have t52 : ¬ ((983039 : Int32) < c) := own_gtF (k := 983039) rfl (by omega)
  simp only [own_f1_16, own_f1, own_f2_191, own_f2_195, own_f2_179, own_f2_167, own_f2_155, own_f2_142, own_f2_128, own_f2_114, own_f2_100, own_f2_86, own_f2_72, own_f2_58, own_f2_44, own_f2_24, own_f2_12, own_f2, own_f3_12, own_f3_65, own_f3_198, own_f3_184, own_f3_170, own_f3_156, own_f3_140, own_f3_124, own_f3_108, own_f3_83, own_f3_51, own_f3_28, own_f3, t0, t1, t2, t3, t4, t5, t6, t7, t8, t9, t10, t11, t12, t13, t14, t15, t16, t17, t18, t19, t20, t21, t22, t23, t24, t25, t26, t27, t28, t29, t30, t31, t32, t33, t34, t35, t36, t37, t38, t39, t40, t41, t42, t43, t44, t45, t46, t47, t48, t49, t50, t51, t52, own_10, own_01, ↓reduceIte]
theorem own_iv_8 (c : Int32) (h1 : 215 ≤ c.toInt) (h2 : c.toInt ≤ 215) : own_f1 c = 1 := by
  have e : c = (215 : Int32) := own_eqT (k := 215) rfl (by omega)
  subst e
  decide +kernel
theorem own_iv_9 (c : Int32) (h1 : 216 ≤ c.toInt) (h2 : c.toInt ≤ 246) : own_f1 c = 1 := by
  have t0 : ¬ (c < (65 : Int32)) := own_ltF (k := 65) rfl (by omega)
  have t1 : ¬ (c < (91 : Int32)) := own_ltF (k := 91) rfl (by omega)
  have t2 : ¬ (c < (97 : Int32)) := own_ltF (k := 97) rfl (by omega)
  have t3 : ¬ (c < (123 : Int32)) := own_ltF (k := 123) rfl (by omega)
  have t4 : ¬ (c < (192 : Int32)) := own_ltF (k := 192) rfl (by omega)
  have t5 : ¬ (c < (216 : Int32)) := own_ltF (k := 216) rfl (by omega)
  have t6 : c < (248 : Int32) := own_ltT (k := 248) rfl (by omega)
  have t7 : c < (768 : Int32) := own_ltT (k := 768) rfl (by omega)
  have t8 : c < (880 : Int32) := own_ltT (k := 880) rfl (by omega)
  have t9 : c < (895 : Int32) := own_ltT (k := 895) rfl (by omega)
  have t10 : c < (8192 : Int32) := own_ltT (k := 8192) rfl (by omega)
  have t11 : c < (8204 : Int32) := own_ltT (k := 8204) rfl (by omega)
  have t12 : c < (8206 : Int32) := own_ltT (k := 8206) rfl (by omega)
  have t13 : c < (8304 : Int32) := own_ltT (k := 8304) rfl (by omega)
  have t14 : c < (8592 : Int32) := own_ltT (k := 8592) rfl (by omega)
  have t15 : c < (11264 : Int32) := own_ltT (k := 11264) rfl (by omega)
  have t16 : c < (12272 : Int32) := own_ltT (k := 12272) rfl (by omega)
  have t17 : c < (12289 : Int32) := own_ltT (k := 12289) rfl (by omega)
  have t18 : c < (55296 : Int32) := own_ltT (k := 55296) rfl (by omega)
  have t19 : c < (63744 : Int32) := own_ltT (k := 63744) rfl (by omega)
  have t20 : c < (64976 : Int32) := own_ltT (k := 64976) rfl (by omega)
  have t21 : c < (65008 : Int32) := own_ltT (k := 65008) rfl (by omega)
  have t22 : c < (65534 : Int32) := own_ltT (k := 65534) rfl (by omega)
  have t23 : c < (65536 : Int32) := own_ltT (k := 65536) rfl (by omega)
  have t24 : ¬ (c = (95 : Int32)) := own_eqF (k := 95) rfl (by omega)
  have t25 : ¬ (c = (96 : Int32)) := own_eqF (k := 96) rfl (by omega)
  have t26 : ¬ (c = (215 : Int32)) := own_eqF (k := 215) rfl (by omega)
  have t27 : ¬ (c = (247 : Int32)) := own_eqF (k := 247) rfl (by omega)
  have t28 : ¬ (c = (894 : Int32)) := own_eqF (k := 894) rfl (by omega)
  have t29 : (90 : Int32) < c := own_gtT (k := 90) rfl (by omega)
  have t30 : (94 : Int32) < c := own_gtT (k := 94) rfl (by omega)
  have t31 : (122 : Int32) < c := own_gtT (k := 122) rfl (by omega)
  have t32 : (191 : Int32) < c := own_gtT (k := 191) rfl (by omega)
  have t33 : (214 : Int32) < c := own_gtT (k := 214) rfl (by omega)
  have t34 : ¬ ((246 : Int32) < c) := own_gtF (k := 246) rfl (by omega)
  have t35 : ¬ ((767 : Int32) < c) := own_gtF (k := 767) rfl (by omega)
  have t36 : ¬ ((879 : Int32) < c) := own_gtF (k := 879) rfl (by omega)
  have t37 : ¬ ((893 : Int32) < c) := own_gtF (k := 893) rfl (by omega)
  have t38 : ¬ ((8191 : Int32) < c) := own_gtF (k := 8191) rfl (by omega)
  have t39 : ¬ ((8203 : Int32) < c) := own_gtF (k := 8203) rfl (by omega)
  have t40 : ¬ ((8205 : Int32) < c) := own_gtF (k := 8205) rfl (by omega)
  have t41 : ¬ ((8303 : Int32) < c) := own_gtF (k := 8303) rfl (by omega)
  have t42 : ¬ ((8591 : Int32) < c) := own_gtF (k := 8591) rfl (by omega)
  have t43 : ¬ ((11263 : Int32) < c) := own_gtF (k := 11263) rfl (by omega)
  have t44 : ¬ ((12271 : Int32) < c) := own_gtF (k := 12271) rfl (by omega)
  have t45 : ¬ ((12288 : Int32) < c) := own_gtF (k := 12288) rfl (by omega)
  have t46 : ¬ ((55295 : Int32) < c) := own_gtF (k := 55295) rfl (by omega)
  have t47 : ¬ ((63743 : Int32) < c) := own_gtF (k := 63743) rfl (by omega)
  have t48 : ¬ ((64975 : Int32) < c) := own_gtF (k := 64975) rfl (by omega)
  have t49 : ¬ ((65007 : Int32) < c) := own_gtF (k := 65007) rfl (by omega)
  have t50 : ¬ ((65533 : Int32) < c) := own_gtF (k := 65533) rfl (by omega)
  have t51 : ¬ ((65535 : Int32) < c) := own_gtF (k := 65535) rfl (by omega)
  have t52 : ¬ ((983039 : Int32) < c) := own_gtF (k := 983039) rfl (by omega)
  simp only [own_f1_16, own_f1, own_f2_191, own_f2_195, own_f2_179, own_f2_167, own_f2_155, own_f2_142, own_f2_128, own_f2_114, own_f2_100, own_f2_86, own_f2_72, own_f2_58, own_f2_44, own_f2_24, own_f2_12, own_f2, own_f3_12, own_f3_65, own_f3_198, own_f3_184, own_f3_170, own_f3_156, own_f3_140, own_f3_124, own_f3_108, own_f3_83, own_f3_51, own_f3_28, own_f3, t0, t1, t2, t3, t4, t5, t6, t7, t8, t9, t10, t11, t12, t13, t14, t15, t16, t17, t18, t19, t20, t21, t22, t23, t24, t25, t26, t27, t28, t29, t30, t31, t32, t33, t34, t35, t36, t37, t38, t39, t40, t41, t42, t43, t44, t45, t46, t47, t48, t49, t50, t51, t52, own_10, own_01, ↓reduceIte]
theorem own_iv_10 (c : Int32) (h1 : 247 ≤ c.toInt) (h2 : c.toInt ≤ 247) : own_f1 c = 1 := by
  have e : c = (247 : Int32) := own_eqT (k := 247) rfl (by omega)
  subst e
  decide +kernel
theorem own_iv_11 (c : Int32) (h1 : 248 ≤ c.toInt) (h2 : c.toInt ≤ 767) : own_f1 c = 1 := by
  have t0 : ¬ (c < (65 : Int32)) := own_ltF (k := 65) rfl (by omega)
  have t1 : ¬ (c < (91 : Int32)) := own_ltF (k := 91) rfl (by omega)
  have t2 : ¬ (c < (97 : Int32)) := own_ltF (k := 97) rfl (by omega)
  have t3 : ¬ (c < (123 : Int32)) := own_ltF (k := 123) rfl (by omega)
  have t4 : ¬ (c < (192 : Int32)) := own_ltF (k := 192) rfl (by omega)
  have t5 : ¬ (c < (216 : Int32)) := own_ltF (k := 216) rfl (by omega)
  have t6 : ¬ (c < (248 : Int32)) := own_ltF (k := 248) rfl (by omega)
  have t7 : c < (768 : Int32) := own_ltT (k := 768) rfl (by omega)
  have t8 : c < (880 : Int32) := own_ltT (k := 880) rfl (by omega)
  have t9 : c < (895 : Int32) := own_ltT (k := 895) rfl (by omega)
  have t10 : c < (8192 : Int32) := own_ltT (k := 8192) rfl (by omega)
  have t11 : c < (8204 : Int32) := own_ltT (k := 8204) rfl (by omega)
  have t12 : c < (8206 : Int32) := own_ltT (k := 8206) rfl (by omega)
  have t13 : c < (8304 : Int32) := own_ltT (k := 8304) rfl (by omega)
  have t14 : c < (8592 : Int32) := own_ltT (k := 8592) rfl (by omega)
  have t15 : c < (11264 : Int32) := own_ltT (k := 11264) rfl (by omega)
  have t16 : c < (12272 : Int32) := own_ltT (k := 12272) rfl (by omega)
  have t17 : c < (12289 : Int32) := own_ltT (k := 12289) rfl (by omega)
  have t18 : c < (55296 : Int32) := own_ltT (k := 55296) rfl (by omega)
  have t19 : c < (63744 : Int32) := own_ltT (k := 63744) rfl (by omega)
  have t20 : c < (64976 : Int32) := own_ltT (k := 64976) rfl (by omega)
  have t21 : c < (65008 : Int32) := own_ltT (k := 65008) rfl (by omega)
  have t22 : c < (65534 : Int32) := own_ltT (k := 65534) rfl (by omega)
  have t23 : c < (65536 : Int32) := own_ltT (k := 65536) rfl (by omega)
  have t24 : ¬ (c = (95 : Int32)) := own_eqF (k := 95) rfl (by omega)
  have t25 : ¬ (c = (96 : Int32)) := own_eqF (k := 96) rfl (by omega)
  have t26 : ¬ (c = (215 : Int32)) := own_eqF (k := 215) rfl (by omega)
  have t27 : ¬ (c = (247 : Int32)) := own_eqF (k := 247) rfl (by omega)
  have t28 : ¬ (c = (894 : Int32)) := own_eqF (k := 894) rfl (by omega)
  have t29 : (90 : Int32) < c := own_gtT (k := 90) rfl (by omega)
  have t30 : (94 : Int32) < c := own_gtT (k := 94) rfl (by omega)
  have t31 : (122 : Int32) < c := own_gtT (k := 122) rfl (by omega)
  have t32 : (191 : Int32) < c := own_gtT (k := 191) rfl (by omega)
  have t33 : (214 : Int32) < c := own_gtT (k := 214) rfl (by omega)
  have t34 : (246 : Int32) < c := own_gtT (k := 246) rfl (by omega)
  have t35 : ¬ ((767 : Int32) < c) := own_gtF (k := 767) rfl (by omega)
  have t36 : ¬ ((879 : Int32) < c) := own_gtF (k := 879) rfl (by omega)
  have t37 : ¬ ((893 : Int32) < c) := own_gtF (k := 893) rfl (by omega)
  have t38 : ¬ ((8191 : Int32) < c) := own_gtF (k := 8191) rfl (by omega)
  have t39 : ¬ ((8203 : Int32) < c) := own_gtF (k := 8203) rfl (by omega)
  have t40 : ¬ ((8205 : Int32) < c) := own_gtF (k := 8205) rfl (by omega)
  have t41 : ¬ ((8303 : Int32) < c) := own_gtF (k := 8303) rfl (by omega)
  have t42 : ¬ ((8591 : Int32) < c) := own_gtF (k := 8591) rfl (by omega)
  have t43 : ¬ ((11263 : Int32) < c) := own_gtF (k := 11263) rfl (by omega)
  have t44 : ¬ ((12271 : Int32) < c) := own_gtF (k := 12271) rfl (by omega)
  have t45 : ¬ ((12288 : Int32) < c) := own_gtF (k := 12288) rfl (by omega)
  have t46 : ¬ ((55295 : Int32) < c) := own_gtF (k := 55295) rfl (by omega)
  have t47 : ¬ ((63743 : Int32) < c) := own_gtF (k := 63743) rfl (by omega)
  have t48 : ¬ ((64975 : Int32) < c) := own_gtF (k := 64975) rfl (by omega)
  have t49 : ¬ ((65007 : Int32) < c) := own_gtF (k := 65007) rfl (by omega)
  have t50 : ¬ ((65533 : Int32) < c) := own_gtF (k := 65533) rfl (by omega)
  have t51 : ¬ ((65535 : Int32) < c) := own_gtF (k := 65535) rfl (by omega)
  have t52 : ¬ ((983039 : Int32) < c) := own_gtF (k := 983039) rfl (by omega)
  simp only [own_f1_16, own_f1, own_f2_191, own_f2_195, own_f2_179, own_f2_167, own_f2_155, own_f2_142, own_f2_128, own_f2_114, own_f2_100, own_f2_86, own_f2_72, own_f2_58, own_f2_44, own_f2_24, own_f2_12, own_f2, own_f3_12, own_f3_65, own_f3_198, own_f3_184, own_f3_170, own_f3_156, own_f3_140, own_f3_124, own_f3_108, own_f3_83, own_f3_51, own_f3_28, own_f3, t0, t1, t2, t3, t4, t5, t6, t7, t8, t9, t10, t11, t12, t13, t14, t15, t16, t17, t18, t19, t20, t21, t22, t23, t24, t25, t26, t27, t28, t29, t30, t31, t32, t33, t34, t35, t36, t37, t38, t39, t40, t41, t42, t43, t44, t45, t46, t47, t48, t49, t50, t51, t52, own_10, own_01, ↓reduceIte]
theorem own_iv_12 (c : Int32) (h1 : 768 ≤ c.toInt) (h2 : c.toInt ≤ 879) : own_f1 c = 1 := by
  have t0 : ¬ (c < (65 : Int32)) := own_ltF (k := 65) rfl (by omega)
  have t1 : ¬ (c < (91 : Int32)) := own_ltF (k := 91) rfl (by omega)
  have t2 : ¬ (c < (97 : Int32)) := own_ltF (k := 97) rfl (by omega)
  have t3 : ¬ (c < (123 : Int32)) := own_ltF (k := 123) rfl (by omega)
  have t4 : ¬ (c < (192 : Int32)) := own_ltF (k := 192) rfl (by omega)
  have t5 : ¬ (c < (216 : Int32)) := own_ltF (k := 216) rfl (by omega)
  have t6 : ¬ (c < (248 : Int32)) := own_ltF (k := 248) rfl (by omega)
  have t7 : ¬ (c < (768 : Int32)) := own_ltF (k := 768) rfl (by omega)
  have t8 : c < (880 : Int32) := own_ltT (k := 880) rfl (by omega)
  have t9 : c < (895 : Int32) := own_ltT (k := 895) rfl (by omega)
  have t10 : c < (8192 : Int32) := own_ltT (k := 8192) rfl (by omega)
  have t11 : c < (8204 : Int32) := own_ltT (k := 8204) rfl (by omega)
  have t12 : c < (8206 : Int32) := own_ltT (k := 8206) rfl (by omega)
  have t13 : c < (8304 : Int32) := own_ltT (k := 8304) rfl (by omega)
  have t14 : c < (8592 : Int32) := own_ltT (k := 8592) rfl (by omega)
  have t15 : c < (11264 : Int32) := own_ltT (k := 11264) rfl (by omega)
  have t16 : c < (12272 : Int32) := own_ltT (k := 12272) rfl (by omega)
  have t17 : c < (12289 : Int32) := own_ltT (k := 12289) rfl (by omega)
  have t18 : c < (55296 : Int32) := own_ltT (k := 55296) rfl (by omega)
  have t19 : c < (63744 : Int32) := own_ltT (k := 63744) rfl (by omega)
  have t20 : c < (64976 : Int32) := own_ltT (k := 64976) rfl (by omega)
  have t21 : c < (65008 : Int32) := own_ltT (k := 65008) rfl (by omega)
  have t22 : c < (65534 : Int32) := own_ltT (k := 65534) rfl (by omega)
  have t23 : c < (65536 : Int32) := own_ltT (k := 65536) rfl (by omega)
  have t24 : ¬ (c = (95 : Int32)) := own_eqF (k := 95) rfl (by omega)
  have t25 : ¬ (c = (96 : Int32)) := own_eqF (k := 96) rfl (by omega)
  have t26 : ¬ (c = (215 : Int32)) := own_eqF (k := 215) rfl (by omega)
  have t27 : ¬ (c = (247 : Int32)) := own_eqF (k := 247) rfl (by omega)
  have t28 : ¬ (c = (894 : Int32)) := own_eqF (k := 894) rfl (by omega)
  have t29 : (90 : Int32) < c := own_gtT (k := 90) rfl (by omega)
  have t30 : (94 : Int32) < c := own_gtT (k := 94) rfl (by omega)
  have t31 : (122 : Int32) < c := own_gtT (k := 122) rfl (by omega)
  have t32 : (191 : Int32) < c := own_gtT (k := 191) rfl (by omega)
  have t33 : (214 : Int32) < c := own_gtT (k := 214) rfl (by omega)
  have t34 : (246 : Int32) < c := own_gtT (k := 246) rfl (by omega)
  have t35 : (767 : Int32) < c := own_gtT (k := 767) rfl (by omega)
  have t36 : ¬ ((879 : Int32) < c) := own_gtF (k := 879) rfl (by omega)
  have t37 : ¬ ((893 : Int32) < c) := own_gtF (k := 893) rfl (by omega)
  have t38 : ¬ ((8191 : Int32) < c) := own_gtF (k := 8191) rfl (by omega)
  have t39 : ¬ ((8203 : Int32) < c) := own_gtF (k := 8203) rfl (by omega)
  have t40 : ¬ ((8205 : Int32) < c) := own_gtF (k := 8205) rfl (by omega)
  have t41 : ¬ ((8303 : Int32) < c) := own_gtF (k := 8303) rfl (by omega)
  have t42 : ¬ ((8591 : Int32) < c) := own_gtF (k := 8591) rfl (by omega)
  have t43 : ¬ ((11263 : Int32) < c) := own_gtF (k := 11263) rfl (by omega)
  have t44 : ¬ ((12271 : Int32) < c) := own_gtF (k := 12271) rfl (by omega)
  have t45 : ¬ ((12288 : Int32) < c) := own_gtF (k := 12288) rfl (by omega)
  have t46 : ¬ ((55295 : Int32) < c) := own_gtF (k := 55295) rfl (by omega)
  have t47 : ¬ ((63743 : Int32) < c) := own_gtF (k := 63743) rfl (by omega)
  have t48 : ¬ ((64975 : Int32) < c) := own_gtF (k := 64975) rfl (by omega)
  have t49 : ¬ ((65007 : Int32) < c) := own_gtF (k := 65007) rfl (by omega)
  have t50 : ¬ ((65533 : Int32) < c) := own_gtF (k := 65533) rfl (by omega)
  have t51 : ¬ ((65535 : Int32) < c) := own_gtF (k := 65535) rfl (by omega)
  have t52 : ¬ ((983039 : Int32) < c) := own_gtF (k := 983039) rfl (by omega)
  simp only [own_f1_16, own_f1, own_f2_191, own_f2_195, own_f2_179, own_f2_167, own_f2_155, own_f2_142, own_f2_128, own_f2_114, own_f2_100, own_f2_86, own_f2_72, own_f2_58, own_f2_44, own_f2_24, own_f2_12, own_f2, own_f3_12, own_f3_65, own_f3_198, own_f3_184, own_f3_170, own_f3_156, own_f3_140, own_f3_124, own_f3_108, own_f3_83, own_f3_51, own_f3_28, own_f3, t0, t1, t2, t3, t4, t5, t6, t7, t8, t9, t10, t11, t12, t13, t14, t15, t16, t17, t18, t19, t20, t21, t22, t23, t24, t25, t26, t27, t28, t29, t30, t31, t32, t33, t34, t35, t36, t37, t38, t39, t40, t41, t42, t43, t44, t45, t46, t47, t48, t49, t50, t51, t52, own_10, own_01, ↓reduceIte]
theorem own_iv_13 (c : Int32) (h1 : 880 ≤ c.toInt) (h2 : c.toInt ≤ 893) : own_f1 c = 1 := by
  have t0 : ¬ (c < (65 : Int32)) := own_ltF (k := 65) rfl (by omega)
  have t1 : ¬ (c < (91 : Int32)) := own_ltF (k := 91) rfl (by omega)
  have t2 : ¬ (c < (97 : Int32)) := own_ltF (k := 97) rfl (by omega)
  have t3 : ¬ (c < (123 : Int32)) := own_ltF (k := 123) rfl (by omega)
  have t4 : ¬ (c < (192 : Int32)) := own_ltF (k := 192) rfl (by omega)
  have t5 : ¬ (c < (216 : Int32)) := own_ltF (k := 216) rfl (by omega)
  have t6 : ¬ (c < (248 : Int32)) := own_ltF (k := 248) rfl (by omega)
  have t7 : ¬ (c < (768 : Int32)) := own_ltF (k := 768) rfl (by omega)
  have t8 : ¬ (c < (880 : Int32)) := own_ltF (k := 880) rfl (by omega)
  have t9 : c < (895 : Int32) := own_ltT (k := 895) rfl (by omega)
  have t10 : c < (8192 : Int32) := own_ltT (k := 8192) rfl (by omega)
  have t11 : c < (8204 : Int32) := own_ltT (k := 8204) rfl (by omega)
  have t12 : c < (8206 : Int32) := own_ltT (k := 8206) rfl (by omega)
  have t13 : c < (8304 : Int32) := own_ltT (k := 8304) rfl (by omega)
  have t14 : c < (8592 : Int32) := own_ltT (k := 8592) rfl (by omega)
  have t15 : c < (11264 : Int32) := own_ltT (k := 11264) rfl (by omega)
  have t16 : c < (12272 : Int32) := own_ltT (k := 12272) rfl (by omega)
  have t17 : c < (12289 : Int32) := own_ltT (k := 12289) rfl (by omega)
  have t18 : c < (55296 : Int32) := own_ltT (k := 55296) rfl (by omega)
  have t19 : c < (63744 : Int32) := own_ltT (k := 63744) rfl (by omega)
  have t20 : c < (64976 : Int32) := own_ltT (k := 64976) rfl (by omega)
  have t21 : c < (65008 : Int32) := own_ltT (k := 65008) rfl (by omega)
  have t22 : c < (65534 : Int32) := own_ltT (k := 65534) rfl (by omega)
  have t23 : c < (65536 : Int32) := own_ltT (k := 65536) rfl (by omega)
  have t24 : ¬ (c = (95 : Int32)) := own_eqF (k := 95) rfl (by omega)
  have t25 : ¬ (c = (96 : Int32)) := own_eqF (k := 96) rfl (by omega)
  have t26 : ¬ (c = (215 : Int32)) := own_eqF (k := 215) rfl (by omega)
  have t27 : ¬ (c = (247 : Int32)) := own_eqF (k := 247) rfl (by omega)
  have t28 : ¬ (c = (894 : Int32)) := own_eqF (k := 894) rfl (by omega)
  have t29 : (90 : Int32) < c := own_gtT (k := 90) rfl (by omega)
  have t30 : (94 : Int32) < c := own_gtT (k := 94) rfl (by omega)
  have t31 : (122 : Int32) < c := own_gtT (k := 122) rfl (by omega)
  have t32 : (191 : Int32) < c := own_gtT (k := 191) rfl (by omega)
  have t33 : (214 : Int32) < c := own_gtT (k := 214) rfl (by omega)
  have t34 : (246 : Int32) < c := own_gtT (k := 246) rfl (by omega)
  have t35 : (767 : Int32) < c := own_gtT (k := 767) rfl (by omega)
  have t36 : (879 : Int32) < c := own_gtT (k := 879) rfl (by omega)
  have t37 : ¬ ((893 : Int32) < c) := own_gtF (k := 893) rfl (by omega)
  have t38 : ¬ ((8191 : Int32) < c) := own_gtF (k := 8191) rfl (by omega)
  have t39 : ¬ ((8203 : Int32) < c) := own_gtF (k := 8203) rfl (by omega)
  have t40 : ¬ ((8205 : Int32) < c) := own_gtF (k := 8205) rfl (by omega)
  have t41 : ¬ ((8303 : Int32) < c) := own_gtF (k := 8303) rfl (by omega)
  have t42 : ¬ ((8591 : Int32) < c) := own_gtF (k := 8591) rfl (by omega)
  have t43 : ¬ ((11263 : Int32) < c) := own_gtF (k := 11263) rfl (by omega)
  have t44 : ¬ ((12271 : Int32) < c) := own_gtF (k := 12271) rfl (by omega)
  have t45 : ¬ ((12288 : Int32) < c) := own_gtF (k := 12288) rfl (by omega)
  have t46 : ¬ ((55295 : Int32) < c) := own_gtF (k := 55295) rfl (by omega)
  have t47 : ¬ ((63743 : Int32) < c) := own_gtF (k := 63743) rfl (by omega)
  have t48 : ¬ ((64975 : Int32) < c) := own_gtF (k := 64975) rfl (by omega)
  have t49 : ¬ ((65007 : Int32) < c) := own_gtF (k := 65007) rfl (by omega)
  have t50 : ¬ ((65533 : Int32) < c) := own_gtF (k := 65533) rfl (by omega)
  have t51 : ¬ ((65535 : Int32) < c) := own_gtF (k := 65535) rfl (by omega)
  have t52 : ¬ ((983039 : Int32) < c) := own_gtF (k := 983039) rfl (by omega)
  simp only [own_f1_16, own_f1, own_f2_191, own_f2_195, own_f2_179, own_f2_167, own_f2_155, own_f2_142, own_f2_128, own_f2_114, own_f2_100, own_f2_86, own_f2_72, own_f2_58, own_f2_44, own_f2_24, own_f2_12, own_f2, own_f3_12, own_f3_65, own_f3_198, own_f3_184, own_f3_170, own_f3_156, own_f3_140, own_f3_124, own_f3_108, own_f3_83, own_f3_51, own_f3_28, own_f3, t0, t1, t2, t3, t4, t5, t6, t7, t8, t9, t10, t11, t12, t13, t14, t15, t16, t17, t18, t19, t20, t21, t22, t23, t24, t25, t26, t27, t28, t29, t30, t31, t32, t33, t34, t35, t36, t37, t38, t39, t40, t41, t42, t43, t44, t45, t46, t47, t48, t49, t50, t51, t52, own_10, own_01, ↓reduceIte]
theorem own_iv_14 (c : Int32) (h1 : 894 ≤ c.toInt) (h2 : c.toInt ≤ 894) : own_f1 c = 1 := by
  have e : c = (894 : Int32) := own_eqT (k := 894) rfl (by omega)
  subst e
  decide +kernel
theorem own_iv_15 (c : Int32) (h1 : 895 ≤ c.toInt) (h2 : c.toInt ≤ 8191) : own_f1 c = 1 := by
  have t0 : ¬ (c < (65 : Int32)) := own_ltF (k := 65) rfl (by omega)
  have t1 : ¬ (c < (91 : Int32)) := own_ltF (k := 91) rfl (by omega)
  have t2 : ¬ (c < (97 : Int32)) := own_ltF (k := 97) rfl (by omega)
  have t3 : ¬ (c < (123 : Int32)) := own_ltF (k := 123) rfl (by omega)
  have t4 : ¬ (c < (192 : Int32)) := own_ltF (k := 192) rfl (by omega)
  have t5 : ¬ (c < (216 : Int32)) := own_ltF (k := 216) rfl (by omega)
  have t6 : ¬ (c < (248 : Int32)) := own_ltF (k := 248) rfl (by omega)
  have t7 : ¬ (c < (768 : Int32)) := own_ltF (k := 768) rfl (by omega)
  have t8 : ¬ (c < (880 : Int32)) := own_ltF (k := 880) rfl (by omega)
  have t9 : ¬ (c < (895 : Int32)) := own_ltF (k := 895) rfl (by omega)
  have t10 : c < (8192 : Int32) := own_ltT (k := 8192) rfl (by omega)
  have t11 : c < (8204 : Int32) := own_ltT (k := 8204) rfl (by omega)
  have t12 : c < (8206 : Int32) := own_ltT (k := 8206) rfl (by omega)
  have t13 : c < (8304 : Int32) := own_ltT (k := 8304) rfl (by omega)
  have t14 : c < (8592 : Int32) := own_ltT (k := 8592) rfl (by omega)
  have t15 : c < (11264 : Int32) := own_ltT (k := 11264) rfl (by omega)
  have t16 : c < (12272 : Int32) := own_ltT (k := 12272) rfl (by omega)
  have t17 : c < (12289 : Int32) := own_ltT (k := 12289) rfl (by omega)
  have t18 : c < (55296 : Int32) := own_ltT (k := 55296) rfl (by omega)
  have t19 : c < (63744 : Int32) := own_ltT (k := 63744) rfl (by omega)
  have t20 : c < (64976 : Int32) := own_ltT (k := 64976) rfl (by omega)
  have t21 : c < (65008 : Int32) := own_ltT (k := 65008) rfl (by omega)
  have t22 : c < (65534 : Int32) := own_ltT (k := 65534) rfl (by omega)
  have t23 : c < (65536 : Int32) := own_ltT (k := 65536) rfl (by omega)
  have t24 : ¬ (c = (95 : Int32)) := own_eqF (k := 95) rfl (by omega)
  have t25 : ¬ (c = (96 : Int32)) := own_eqF (k := 96) rfl (by omega)
  have t26 : ¬ (c = (215 : Int32)) := own_eqF (k := 215) rfl (by omega)
  have t27 : ¬ (c = (247 : Int32)) := own_eqF (k := 247) rfl (by omega)
  have t28 : ¬ (c = (894 : Int32)) := own_eqF (k := 894) rfl (by omega)
  have t29 : (90 : Int32) < c := own_gtT (k := 90) rfl (by omega)
  have t30 : (94 : Int32) < c := own_gtT (k := 94) rfl (by omega)
  have t31 : (122 : Int32) < c := own_gtT (k := 122) rfl (by omega)
  have t32 : (191 : Int32) < c := own_gtT (k := 191) rfl (by omega)
  have t33 : (214 : Int32) < c := own_gtT (k := 214) rfl (by omega)
  have t34 : (246 : Int32) < c := own_gtT (k := 246) rfl (by omega)
  have t35 : (767 : Int32) < c := own_gtT (k := 767) rfl (by omega)
  have t36 : (879 : Int32) < c := own_gtT (k := 879) rfl (by omega)
  have t37 : (893 : Int32) < c := own_gtT (k := 893) rfl (by omega)
  have t38 : ¬ ((8191 : Int32) < c) := own_gtF (k := 8191) rfl (by omega)
  have t39 : ¬ ((8203 : Int32) < c) := own_gtF (k := 8203) rfl (by omega)
  have t40 : ¬ ((8205 : Int32) < c) := own_gtF (k := 8205) rfl (by omega)
  have t41 : ¬ ((8303 : Int32) < c) := own_gtF (k := 8303) rfl (by omega)
  have t42 : ¬ ((8591 : Int32) < c) := own_gtF (k := 8591) rfl (by omega)
  have t43 : ¬ ((11263 : Int32) < c) := own_gtF (k := 11263) rfl (by omega)
  have t44 : ¬ ((12271 : Int32) < c) := own_gtF (k := 12271) rfl (by omega)
  have t45 : ¬ ((12288 : Int32) < c) := own_gtF (k := 12288) rfl (by omega)
  have t46 : ¬ ((55295 : Int32) < c) := own_gtF (k := 55295) rfl (by omega)
  have t47 : ¬ ((63743 : Int32) < c) := own_gtF (k := 63743) rfl (by omega)
  have t48 : ¬ ((64975 : Int32) < c) := own_gtF (k := 64975) rfl (by omega)
  have t49 : ¬ ((65007 : Int32) < c) := own_gtF (k := 65007) rfl (by omega)
  have t50 : ¬ ((65533 : Int32) < c) := own_gtF (k := 65533) rfl (by omega)
  have t51 : ¬ ((65535 : Int32) < c) := own_gtF (k := 65535) rfl (by omega)
  have t52 : ¬ ((983039 : Int32) < c) := own_gtF (k := 983039) rfl (by omega)
  simp only [own_f1_16, own_f1, own_f2_191, own_f2_195, own_f2_179, own_f2_167, own_f2_155, own_f2_142, own_f2_128, own_f2_114, own_f2_100, own_f2_86, own_f2_72, own_f2_58, own_f2_44, own_f2_24, own_f2_12, own_f2, own_f3_12, own_f3_65, own_f3_198, own_f3_184, own_f3_170, own_f3_156, own_f3_140, own_f3_124, own_f3_108, own_f3_83, own_f3_51, own_f3_28, own_f3, t0, t1, t2, t3, t4, t5, t6, t7, t8, t9, t10, t11, t12, t13, t14, t15, t16, t17, t18, t19, t20, t21, t22, t23, t24, t25, t26, t27, t28, t29, t30, t31, t32, t33, t34, t35, t36, t37, t38, t39, t40, t41, t42, t43, t44, t45, t46, t47, t48, t49, t50, t51, t52, own_10, own_01, ↓reduceIte]
theorem own_iv_16 (c : Int32) (h1 : 8192 ≤ c.toInt) (h2 : c.toInt ≤ 8203) : own_f1 c = 1 := by
  have t0 : ¬ (c < (65 : Int32)) := own_ltF (k := 65) rfl (by omega)
  have t1 : ¬ (c < (91 : Int32)) := own_ltF (k := 91) rfl (by omega)
  have t2 : ¬ (c < (97 : Int32)) := own_ltF (k := 97) rfl (by omega)
  have t3 : ¬ (c < (123 : Int32)) := own_ltF (k := 123) rfl (by omega)
  have t4 : ¬ (c < (192 : Int32)) := own_ltF (k := 192) rfl (by omega)
  have t5 : ¬ (c < (216 : Int32)) := own_ltF (k := 216) rfl (by omega)
  have t6 : ¬ (c < (248 : Int32)) := own_ltF (k := 248) rfl (by omega)
  have t7 : ¬ (c < (768 : Int32)) := own_ltF (k := 768) rfl (by omega)
  have t8 : ¬ (c < (880 : Int32)) := own_ltF (k := 880) rfl (by omega)
  have t9 : ¬ (c < (895 : Int32)) := own_ltF (k := 895) rfl (by omega)
  have t10 : ¬ (c < (8192 : Int32)) := own_ltF (k := 8192) rfl (by omega)
  have t11 : c < (8204 : Int32) := own_ltT (k := 8204) rfl (by omega)
  have t12 : c < (8206 : Int32) := own_ltT (k := 8206) rfl (by omega)
  have t13 : c < (8304 : Int32) := own_ltT (k := 8304) rfl (by omega)
  have t14 : c < (8592 : Int32) := own_ltT (k := 8592) rfl (by omega)
  have t15 : c < (11264 : Int32) := own_ltT (k := 11264) rfl (by omega)
  have t16 : c < (12272 : Int32) := own_ltT (k := 12272) rfl (by omega)
  have t17 : c < (12289 : Int32) := own_ltT (k := 12289) rfl (by omega)
  have t18 : c < (55296 : Int32) := own_ltT (k := 55296) rfl (by omega)
  have t19 : c < (63744 : Int32) := own_ltT (k := 63744) rfl (by omega)
  have t20 : c < (64976 : Int32) := own_ltT (k := 64976) rfl (by omega)
  have t21 : c < (65008 : Int32) := own_ltT (k := 65008) rfl (by omega)
  have t22 : c < (65534 : Int32) := own_ltT (k := 65534) rfl (by omega)
  have t23 : c < (65536 : Int32) := own_ltT (k := 65536) rfl (by omega)
  have t24 : ¬ (c = (95 : Int32)) := own_eqF (k := 95) rfl (by omega)
  have t25 : ¬ (c = (96 : Int32)) := own_eqF (k := 96) rfl (by omega)
  have t26 : ¬ (c = (215 : Int32)) := own_eqF (k := 215) rfl (by omega)
  have t27 : ¬ (c = (247 : Int32)) := own_eqF (k := 247) rfl (by omega)
  have t28 : ¬ (c = (894 : Int32)) := own_eqF (k := 894) rfl (by omega)
  have t29 : (90 : Int32) < c := own_gtT (k := 90) rfl (by omega)
  have t30 : (94 : Int32) < c := own_gtT (k := 94) rfl (by omega)
  have t31 : (122 : Int32) < c := own_gtT (k := 122) rfl (by omega)
  have t32 : (191 : Int32) < c := own_gtT (k := 191) rfl (by omega)
  have t33 : (214 : Int32) < c := own_gtT (k := 214) rfl (by omega)
  have t34 : (246 : Int32) < c := own_gtT (k := 246) rfl (by omega)
  have t35 : (767 : Int32) < c := own_gtT (k := 767) rfl (by omega)
  have t36 : (879 : Int32) < c := own_gtT (k := 879) rfl (by omega)
  have t37 : (893 : Int32) < c := own_gtT (k := 893) rfl (by omega)
  have t38 : (8191 : Int32) < c := own_gtT (k := 8191) rfl (by omega)
  have t39 : ¬ ((8203 : Int32) < c) := own_gtF (k := 8203) rfl (by omega)
  have t40 : ¬ ((8205 : Int32) < c) := own_gtF (k := 8205) rfl (by omega)
  have t41 : ¬ ((8303 : Int32) < c) := own_gtF (k := 8303) rfl (by omega)
  have t42 : ¬ ((8591 : Int32) < c) := own_gtF (k := 8591) rfl (by omega)
  have t43 : ¬ ((11263 : Int32) < c) := own_gtF (k := 11263) rfl (by omega)
  have t44 : ¬ ((12271 : Int32) < c) := own_gtF (k := 12271) rfl (by omega)
  have t45 : ¬ ((12288 : Int32) < c) := own_gtF (k := 12288) rfl (by omega)
  have t46 : ¬ ((55295 : Int32) < c) := own_gtF (k := 55295) rfl (by omega)
  have t47 : ¬ ((63743 : Int32) < c) := own_gtF (k := 63743) rfl (by omega)
  have t48 : ¬ ((64975 : Int32) < c) := own_gtF (k := 64975) rfl (by omega)
  have t49 : ¬ ((65007 : Int32) < c) := own_gtF (k := 65007) rfl (by omega)
  have t50 : ¬ ((65533 : Int32) < c) := own_gtF (k := 65533) rfl (by omega)
  have t51 : ¬ ((65535 : Int32) < c) := own_gtF (k := 65535) rfl (by omega)
  have t52 : ¬ ((983039 : Int32) < c) := own_gtF (k := 983039) rfl (by omega)
  simp only [own_f1_16, own_f1, own_f2_191, own_f2_195, own_f2_179, own_f2_167, own_f2_155, own_f2_142, own_f2_128, own_f2_114, own_f2_100, own_f2_86, own_f2_72, own_f2_58, own_f2_44, own_f2_24, own_f2_12, own_f2, own_f3_12, own_f3_65, own_f3_198, own_f3_184, own_f3_170, own_f3_156, own_f3_140, own_f3_124, own_f3_108, own_f3_83, own_f3_51, own_f3_28, own_f3, t0, t1, t2, t3, t4, t5, t6, t7, t8, t9, t10, t11, t12, t13, t14, t15, t16, t17, t18, t19, t20, t21, t22, t23, t24, t25, t26, t27, t28, t29, t30, t31, t32, t33, t34, t35, t36, t37, t38, t39, t40, t41, t42, t43, t44, t45, t46, t47, t48, t49, t50, t51, t52, own_10, own_01, ↓reduceIte]
theorem own_iv_17 (c : Int32) (h1 : 8204 ≤ c.toInt) (h2 : c.toInt ≤ 8205) : own_f1 c = 1 := by
  have t0 : ¬ (c < (65 : Int32)) := own_ltF (k := 65) rfl (by omega)
  have t1 : ¬ (c < (91 : Int32)) := own_ltF (k := 91) rfl (by omega)
  have t2 : ¬ (c < (97 : Int32)) := own_ltF (k := 97) rfl (by omega)
  have t3 : ¬ (c < (123 : Int32)) := own_ltF (k := 123) rfl (by omega)
  have t4 : ¬ (c < (192 : Int32)) := own_ltF (k := 192) rfl (by omega)
  have t5 : ¬ (c < (216 : Int32)) := own_ltF (k := 216) rfl (by omega)
  have t6 : ¬ (c < (248 : Int32)) := own_ltF (k := 248) rfl (by omega)
  have t7 : ¬ (c < (768 : Int32)) := own_ltF (k := 768) rfl (by omega)
  have t8 : ¬ (c < (880 : Int32)) := own_ltF (k := 880) rfl (by omega)
  have t9 : ¬ (c < (895 : Int32)) := own_ltF (k := 895) rfl (by omega)
  have t10 : ¬ (c < (8192 : Int32)) := own_ltF (k := 8192) rfl (by omega)
  have t11 : ¬ (c < (8204 : Int32)) := own_ltF (k := 8204) rfl (by omega)
  have t12 : c < (8206 : Int32) := own_ltT (k := 8206) rfl (by omega)
  have t13 : c < (8304 : Int32) := own_ltT (k := 8304) rfl (by omega)
  have t14 : c < (8592 : Int32) := own_ltT (k := 8592) rfl (by omega)
  have t15 : c < (11264 : Int32) := own_ltT (k := 11264) rfl (by omega)
  have t16 : c < (12272 : Int32) := own_ltT (k := 12272) rfl (by omega)
  have t17 : c < (12289 : Int32) := own_ltT (k := 12289) rfl (by omega)
  have t18 : c < (55296 : Int32) := own_ltT (k := 55296) rfl (by omega)
  have t19 : c < (63744 : Int32) := own_ltT (k := 63744) rfl (by omega)
  have t20 : c < (64976 : Int32) := own_ltT (k := 64976) rfl (by omega)
  have t21 : c < (65008 : Int32) := own_ltT (k := 65008) rfl (by omega)
  have t22 : c < (65534 : Int32) := own_ltT (k := 65534) rfl (by omega)
  have t23 : c < (65536 : Int32) := own_ltT (k := 65536) rfl (by omega)
  have t24 : ¬ (c = (95 : Int32)) := own_eqF (k := 95) rfl (by omega)
  have t25 : ¬ (c = (96 : Int32)) := own_eqF (k := 96) rfl (by omega)
  have t26 : ¬ (c = (215 : Int32)) := own_eqF (k := 215) rfl (by omega)
  have t27 : ¬ (c = (247 : Int32)) := own_eqF (k := 247) rfl (by omega)
  have t28 : ¬ (c = (894 : Int32)) := own_eqF (k := 894) rfl (by omega)
  have t29 : (90 : Int32) < c := own_gtT (k := 90) rfl (by omega)
  have t30 : (94 : Int32) < c := own_gtT (k := 94) rfl (by omega)
  have t31 : (122 : Int32) < c := own_gtT (k := 122) rfl (by omega)
  have t32 : (191 : Int32) < c := own_gtT (k := 191) rfl (by omega)
  have t33 : (214 : Int32) < c := own_gtT (k := 214) rfl (by omega)
  have t34 : (246 : Int32) < c := own_gtT (k := 246) rfl (by omega)
  have t35 : (767 : Int32) < c := own_gtT (k := 767) rfl (by omega)
  have t36 : (879 : Int32) < c := own_gtT (k := 879) rfl (by omega)
  have t37 : (893 : Int32) < c := own_gtT (k := 893) rfl (by omega)
  have t38 : (8191 : Int32) < c := own_gtT (k := 8191) rfl (by omega)
  have t39 : (8203 : Int32) < c := own_gtT (k := 8203) rfl (by omega)
  have t40 : ¬ ((8205 : Int32) < c) := own_gtF (k := 8205) rfl (by omega)
  have t41 : ¬ ((8303 : Int32) < c) := own_gtF (k := 8303) rfl (by omega)
  have t42 : ¬ ((8591 : Int32) < c) := own_gtF (k := 8591) rfl (by omega)
  have t43 : ¬ ((11263 : Int32) < c) := own_gtF (k := 11263) rfl (by omega)
  have t44 : ¬ ((12271 : Int32) < c) := own_gtF (k := 12271) rfl (by omega)
  have t45 : ¬ ((12288 : Int32) < c) := own_gtF (k := 12288) rfl (by omega)
  have t46 : ¬ ((55295 : Int32) < c) := own_gtF (k := 55295) rfl (by omega)
  have t47 : ¬ ((63743 : Int32) < c) := own_gtF (k := 63743) rfl (by omega)
  have t48 : ¬ ((64975 : Int32) < c) := own_gtF (k := 64975) rfl (by omega)
  have t49 : ¬ ((65007 : Int32) < c) := own_gtF (k := 65007) rfl (by omega)
  have t50 : ¬ ((65533 : Int32) < c) := own_gtF (k := 65533) rfl (by omega)
  have t51 : ¬ ((65535 : Int32) < c) := own_gtF (k := 65535) rfl (by omega)
  have t52 : ¬ ((983039 : Int32) < c) := own_gtF (k := 983039) rfl (by omega)
  simp only [own_f1_16, own_f1, own_f2_191, own_f2_195, own_f2_179, own_f2_167, own_f2_155, own_f2_142, own_f2_128, own_f2_114, own_f2_100, own_f2_86, own_f2_72, own_f2_58, own_f2_44, own_f2_24, own_f2_12, own_f2, own_f3_12, own_f3_65, own_f3_198, own_f3_184, own_f3_170, own_f3_156, own_f3_140, own_f3_124, own_f3_108, own_f3_83, own_f3_51, own_f3_28, own_f3, t0, t1, t2, t3, t4, t5, t6, t7, t8, t9, t10, t11, t12, t13, t14, t15, t16, t17, t18, t19, t20, t21, t22, t23, t24, t25, t26, t27, t28, t29, t30, t31, t32, t33, t34, t35, t36, t37, t38, t39, t40, t41, t42, t43, t44, t45, t46, t47, t48, t49, t50, t51, t52, own_10, own_01, ↓reduceIte]
theorem own_iv_18 (c : Int32) (h1 : 8206 ≤ c.toInt) (h2 : c.toInt ≤ 8303) : own_f1 c = 1 := by
  have t0 : ¬ (c < (65 : Int32)) := own_ltF (k := 65) rfl (by omega)
  have t1 : ¬ (c < (91 : Int32)) := own_ltF (k := 91) rfl (by omega)
  have t2 : ¬ (c < (97 : Int32)) := own_ltF (k := 97) rfl (by omega)
  have t3 : ¬ (c < (123 : Int32)) := own_ltF (k := 123) rfl (by omega)
  have t4 : ¬ (c < (192 : Int32)) := own_ltF (k := 192) rfl (by omega)
  have t5 : ¬ (c < (216 : Int32)) := own_ltF (k := 216) rfl (by omega)
  have t6 : ¬ (c < (248 : Int32)) := own_ltF (k := 248) rfl (by omega)
  have t7 : ¬ (c < (768 : Int32)) := own_ltF (k := 768) rfl (by omega)
  have t8 : ¬ (c < (880 : Int32)) := own_ltF (k := 880) rfl (by omega)
  have t9 : ¬ (c < (895 : Int32)) := own_ltF (k := 895) rfl (by omega)
  have t10 : ¬ (c < (8192 : Int32)) := own_ltF (k := 8192) rfl (by omega)
  have t11 : ¬ (c < (8204 : Int32)) := own_ltF (k := 8204) rfl (by omega)
  have t12 : ¬ (c < (8206 : Int32)) := own_ltF (k := 8206) rfl (by omega)
  have t13 : c < (8304 : Int32) := own_ltT (k := 8304) rfl (by omega)
  have t14 : c < (8592 : Int32) := own_ltT (k := 8592) rfl (by omega)
  have t15 : c < (11264 : Int32) := own_ltT (k := 11264) rfl (by omega)
  have t16 : c < (12272 : Int32) := own_ltT (k := 12272) rfl (by omega)
  have t17 : c < (12289 : Int32) := own_ltT (k := 12289) rfl (by omega)
  have t18 : c < (55296 : Int32) := own_ltT (k := 55296) rfl (by omega)
  have t19 : c < (63744 : Int32) := own_ltT (k := 63744) rfl (by omega)
  have t20 : c < (64976 : Int32) := own_ltT (k := 64976) rfl (by omega)
  have t21 : c < (65008 : Int32) := own_ltT (k := 65008) rfl (by omega)
  have t22 : c < (65534 : Int32) := own_ltT (k := 65534) rfl (by omega)
  have t23 : c < (65536 : Int32) := own_ltT (k := 65536) rfl (by omega)
  have t24 : ¬ (c = (95 : Int32)) := own_eqF (k := 95) rfl (by omega)
  have t25 : ¬ (c = (96 : Int32)) := own_eqF (k := 96) rfl (by omega)
  have t26 : ¬ (c = (215 : Int32)) := own_eqF (k := 215) rfl (by omega)
  have t27 : ¬ (c = (247 : Int32)) := own_eqF (k := 247) rfl (by omega)
  have t28 : ¬ (c = (894 : Int32)) := own_eqF (k := 894) rfl (by omega)
  have t29 : (90 : Int32) < c := own_gtT (k := 90) rfl (by omega)
  have t30 : (94 : Int32) < c := own_gtT (k := 94) rfl (by omega)
  have t31 : (122 : Int32) < c := own_gtT (k := 122) rfl (by omega)
  have t32 : (191 : Int32) < c := own_gtT (k := 191) rfl (by omega)
  have t33 : (214 : Int32) < c := own_gtT (k := 214) rfl (by omega)
  have t34 : (246 : Int32) < c := own_gtT (k := 246) rfl (by omega)
  have t35 : (767 : Int32) < c := own_gtT (k := 767) rfl (by omega)
  have t36 : (879 : Int32) < c := own_gtT (k := 879) rfl (by omega)
  have t37 : (893 : Int32) < c := own_gtT (k := 893) rfl (by omega)
  have t38 : (8191 : Int32) < c := own_gtT (k := 8191) rfl (by omega)
  have t39 : (8203 : Int32) < c := own_gtT (k := 8203) rfl (by omega)
  have t40 : (8205 : Int32) < c := own_gtT (k := 8205) rfl (by omega)
  have t41 : ¬ ((8303 : Int32) < c) := own_gtF (k := 8303) rfl (by omega)
  have t42 : ¬ ((8591 : Int32) < c) := own_gtF (k := 8591) rfl (by omega)
  have t43 : ¬ ((11263 : Int32) < c) := own_gtF (k := 11263) rfl (by omega)
  have t44 : ¬ ((12271 : Int32) < c) := own_gtF (k := 12271) rfl (by omega)
  have t45 : ¬ ((12288 : Int32) < c) := own_gtF (k := 12288) rfl (by omega)
  have t46 : ¬ ((55295 : Int32) < c) := own_gtF (k := 55295) rfl (by omega)
  have t47 : ¬ ((63743 : Int32) < c) := own_gtF (k := 63743) rfl (by omega)
  have t48 : ¬ ((64975 : Int32) < c) := own_gtF (k := 64975) rfl (by omega)
  have t49 : ¬ ((65007 : Int32) < c) := own_gtF (k := 65007) rfl (by omega)
  have t50 : ¬ ((65533 : Int32) < c) := own_gtF (k := 65533) rfl (by omega)
  have t51 : ¬ ((65535 : Int32) < c) := own_gtF (k := 65535) rfl (by omega)
  have t52 : ¬ ((983039 : Int32) < c) := own_gtF (k := 983039) rfl (by omega)
  simp only [own_f1_16, own_f1, own_f2_191, own_f2_195, own_f2_179, own_f2_167, own_f2_155, own_f2_142, own_f2_128, own_f2_114, own_f2_100, own_f2_86, own_f2_72, own_f2_58, own_f2_44, own_f2_24, own_f2_12, own_f2, own_f3_12, own_f3_65, own_f3_198, own_f3_184, own_f3_170, own_f3_156, own_f3_140, own_f3_124, own_f3_108, own_f3_83, own_f3_51, own_f3_28, own_f3, t0, t1, t2, t3, t4, t5, t6, t7, t8, t9, t10, t11, t12, t13, t14, t15, t16, t17, t18, t19, t20, t21, t22, t23, t24, t25, t26, t27, t28, t29, t30, t31, t32, t33, t34, t35, t36, t37, t38, t39, t40, t41, t42, t43, t44, t45, t46, t47, t48, t49, t50, t51, t52, own_10, own_01, ↓reduceIte]
theorem own_iv_19 (c : Int32) (h1 : 8304 ≤ c.toInt) (h2 : c.toInt ≤ 8591) : own_f1 c = 1 := by
  have t0 : ¬ (c < (65 : Int32)) := own_ltF (k := 65) rfl (by omega)
  have t1 : ¬ (c < (91 : Int32)) := own_ltF (k := 91) rfl (by omega)
  have t2 : ¬ (c < (97 : Int32)) := own_ltF (k := 97) rfl (by omega)
  have t3 : ¬ (c < (123 : Int32)) := own_ltF (k := 123) rfl (by omega)
  have t4 : ¬ (c < (192 : Int32)) := own_ltF (k := 192) rfl (by omega)
  have t5 : ¬ (c < (216 : Int32)) := own_ltF (k := 216) rfl (by omega)
  have t6 : ¬ (c < (248 : Int32)) := own_ltF (k := 248) rfl (by omega)
  have t7 : ¬ (c < (768 : Int32)) := own_ltF (k := 768) rfl (by omega)
  have t8 : ¬ (c < (880 : Int32)) := own_ltF (k := 880) rfl (by omega)
  have t9 : ¬ (c < (895 : Int32)) := own_ltF (k := 895) rfl (by omega)
  have t10 : ¬ (c < (8192 : Int32)) := own_ltF (k := 8192) rfl (by omega)
  have t11 : ¬ (c < (8204 : Int32)) := own_ltF (k := 8204) rfl (by omega)
  have t12 : ¬ (c < (8206 : Int32)) := own_ltF (k := 8206) rfl (by omega)
  have t13 : ¬ (c < (8304 : Int32)) := own_ltF (k := 8304) rfl (by omega)
  have t14 : c < (8592 : Int32) := own_ltT (k := 8592) rfl (by omega)
  have t15 : c < (11264 : Int32) := own_ltT (k := 11264) rfl (by omega)
  have t16 : c < (12272 : Int32) := own_ltT (k := 12272) rfl (by omega)
  have t17 : c < (12289 : Int32) := own_ltT (k := 12289) rfl (by omega)
  have t18 : c < (55296 : Int32) := own_ltT (k := 55296) rfl (by omega)
  have t19 : c < (63744 : Int32) := own_ltT (k := 63744) rfl (by omega)
  have t20 : c < (64976 : Int32) := own_ltT (k := 64976) rfl (by omega)
  have t21 : c < (65008 : Int32) := own_ltT (k := 65008) rfl (by omega)
  have t22 : c < (65534 : Int32) := own_ltT (k := 65534) rfl (by omega)
  have t23 : c < (65536 : Int32) := own_ltT (k := 65536) rfl (by omega)
  have t24 : ¬ (c = (95 : Int32)) := own_eqF (k := 95) rfl (by omega)
  have t25 : ¬ (c = (96 : Int32)) := own_eqF (k := 96) rfl (by omega)
  have t26 : ¬ (c = (215 : Int32)) := own_eqF (k := 215) rfl (by omega)
  have t27 : ¬ (c = (247 : Int32)) := own_eqF (k := 247) rfl (by omega)
  have t28 : ¬ (c = (894 : Int32)) := own_eqF (k := 894) rfl (by omega)
  have t29 : (90 : Int32) < c := own_gtT (k := 90) rfl (by omega)
  have t30 : (94 : Int32) < c := own_gtT (k := 94) rfl (by omega)
  have t31 : (122 : Int32) < c := own_gtT (k := 122) rfl (by omega)
  have t32 : (191 : Int32) < c := own_gtT (k := 191) rfl (by omega)
  have t33 : (214 : Int32) < c := own_gtT (k := 214) rfl (by omega)
  have t34 : (246 : Int32) < c := own_gtT (k := 246) rfl (by omega)
  have t35 : (767 : Int32) < c := own_gtT (k := 767) rfl (by omega)
  have t36 : (879 : Int32) < c := own_gtT (k := 879) rfl (by omega)
  have t37 : (893 : Int32) < c := own_gtT (k := 893) rfl (by omega)
  have t38 : (8191 : Int32) < c := own_gtT (k := 8191) rfl (by omega)
  have t39 : (8203 : Int32) < c := own_gtT (k := 8203) rfl (by omega)
  have t40 : (8205 : Int32) < c := own_gtT (k := 8205) rfl (by omega)
  have t41 : (8303 : Int32) < c := own_gtT (k := 8303) rfl (by omega)
  have t42 : ¬ ((8591 : Int32) < c) := own_gtF (k := 8591) rfl (by omega)
  have t43 : ¬ ((11263 : Int32) < c) := own_gtF (k := 11263) rfl (by omega)
  have t44 : ¬ ((12271 : Int32) < c) := own_gtF (k := 12271) rfl (by omega)
  have t45 : ¬ ((12288 : Int32) < c) := own_gtF (k := 12288) rfl (by omega)
  have t46 : ¬ ((55295 : Int32) < c) := own_gtF (k := 55295) rfl (by omega)
  have t47 : ¬ ((63743 : Int32) < c) := own_gtF (k := 63743) rfl (by omega)
  have t48 : ¬ ((64975 : Int32) < c) := own_gtF (k := 64975) rfl (by omega)
  have t49 : ¬ ((65007 : Int32) < c) := own_gtF (k := 65007) rfl (by omega)
  have t50 : ¬ ((65533 : Int32) < c) := own_gtF (k := 65533) rfl (by omega)
  have t51 : ¬ ((65535 : Int32) < c) := own_gtF (k := 65535) rfl (by omega)
  have t52 : ¬ ((983039 : Int32) < c) := own_gtF (k := 983039) rfl (by omega)
  simp only [own_f1_16, own_f1, own_f2_191, own_f2_195, own_f2_179, own_f2_167, own_f2_155, own_f2_142, own_f2_128, own_f2_114, own_f2_100, own_f2_86, own_f2_72, own_f2_58, own_f2_44, own_f2_24, own_f2_12, own_f2, own_f3_12, own_f3_65, own_f3_198, own_f3_184, own_f3_170, own_f3_156, own_f3_140, own_f3_124, own_f3_108, own_f3_83, own_f3_51, own_f3_28, own_f3, t0, t1, t2, t3, t4, t5, t6, t7, t8, t9, t10, t11, t12, t13, t14, t15, t16, t17, t18, t19, t20, t21, t22, t23, t24, t25, t26, t27, t28, t29, t30, t31, t32, t33, t34, t35, t36, t37, t38, t39, t40, t41, t42, t43, t44, t45, t46, t47, t48, t49, t50, t51, t52, own_10, own_01, ↓reduceIte]
theorem own_iv_20 (c : Int32) (h1 : 8592 ≤ c.toInt) (h2 : c.toInt ≤ 11263) : own_f1 c = 1 := by
  have t0 : ¬ (c < (65 : Int32)) := own_ltF (k := 65) rfl (by omega)
  have t1 : ¬ (c < (91 : Int32)) := own_ltF (k := 91) rfl (by omega)
  have t2 : ¬ (c < (97 : Int32)) := own_ltF (k := 97) rfl (by omega)
  have t3 : ¬ (c < (123 : Int32)) := own_ltF (k := 123) rfl (by omega)
  have t4 : ¬ (c < (192 : Int32)) := own_ltF (k := 192) rfl (by omega)
  have t5 : ¬ (c < (216 : Int32)) := own_ltF (k := 216) rfl (by omega)
  have t6 : ¬ (c < (248 : Int32)) := own_ltF (k := 248) rfl (by omega)
  have t7 : ¬ (c < (768 : Int32)) := own_ltF (k := 768) rfl (by omega)
  have t8 : ¬ (c < (880 : Int32)) := own_ltF (k := 880) rfl (by omega)
  have t9 : ¬ (c < (895 : Int32)) := own_ltF (k := 895) rfl (by omega)
  have t10 : ¬ (c < (8192 : Int32)) := own_ltF (k := 8192) rfl (by omega)
  have t11 : ¬ (c < (8204 : Int32)) := own_ltF (k := 8204) rfl (by omega)
  have t12 : ¬ (c < (8206 : Int32)) := own_ltF (k := 8206) rfl (by omega)
  have t13 : ¬ (c < (8304 : Int32)) := own_ltF (k := 8304) rfl (by omega)
  have t14 : ¬ (c < (8592 : Int32)) := own_ltF (k := 8592) rfl (by omega)
  have t15 : c < (11264 : Int32) := own_ltT (k := 11264) rfl (by omega)
  have t16 : c < (12272 : Int32) := own_ltT (k := 12272) rfl (by omega)
  have t17 : c < (12289 : Int32) := own_ltT (k := 12289) rfl (by omega)
  have t18 : c < (55296 : Int32) := own_ltT (k := 55296) rfl (by omega)
  have t19 : c < (63744 : Int32) := own_ltT (k := 63744) rfl (by omega)
  have t20 : c < (64976 : Int32) := own_ltT (k := 64976) rfl (by omega)
  have t21 : c < (65008 : Int32) := own_ltT (k := 65008) rfl (by omega)
  have t22 : c < (65534 : Int32) := own_ltT (k := 65534) rfl (by omega)
  have t23 : c < (65536 : Int32) := own_ltT (k := 65536) rfl (by omega)
  have t24 : ¬ (c = (95 : Int32)) := own_eqF (k := 95) rfl (by omega)
  have t25 : ¬ (c = (96 : Int32)) := own_eqF (k := 96) rfl (by omega)
  have t26 : ¬ (c = (215 : Int32)) := own_eqF (k := 215) rfl (by omega)
  have t27 : ¬ (c = (247 : Int32)) := own_eqF (k := 247) rfl (by omega)
  have t28 : ¬ (c = (894 : Int32)) := own_eqF (k := 894) rfl (by omega)
  have t29 : (90 : Int32) < c := own_gtT (k := 90) rfl (by omega)
  have t30 : (94 : Int32) < c := own_gtT (k := 94) rfl (by omega)
  have t31 : (122 : Int32) < c := own_gtT (k := 122) rfl (by omega)
  have t32 : (191 : Int32) < c := own_gtT (k := 191) rfl (by omega)
  have t33 : (214 : Int32) < c := own_gtT (k := 214) rfl (by omega)
  have t34 : (246 : Int32) < c := own_gtT (k := 246) rfl (by omega)
  have t35 : (767 : Int32) < c := own_gtT (k := 767) rfl (by omega)
  have t36 : (879 : Int32) < c := own_gtT (k := 879) rfl (by omega)
  have t37 : (893 : Int32) < c := own_gtT (k := 893) rfl (by omega)
  have t38 : (8191 : Int32) < c := own_gtT (k := 8191) rfl (by omega)
  have t39 : (8203 : Int32) < c := own_gtT (k := 8203) rfl (by omega)
  have t40 : (8205 : Int32) < c := own_gtT (k := 8205) rfl (by omega)
  have t41 : (8303 : Int32) < c := own_gtT (k := 8303) rfl (by omega)
  have t42 : (8591 : Int32) < c := own_gtT (k := 8591) rfl (by omega)
  have t43 : ¬ ((11263 : Int32) < c) := own_gtF (k := 11263) rfl (by omega)
  have t44 : ¬ ((12271 : Int32) < c) := own_gtF (k := 12271) rfl (by omega)
  have t45 : ¬ ((12288 : Int32) < c) := own_gtF (k := 12288) rfl (by omega)
  have t46 : ¬ ((55295 : Int32) < c) := own_gtF (k := 55295) rfl (by omega)
  have t47 : ¬ ((63743 : Int32) < c) := own_gtF (k := 63743) rfl (by omega)
  have t48 : ¬ ((64975 : Int32) < c) := own_gtF (k := 64975) rfl (by omega)
  have t49 : ¬ ((65007 : Int32) < c) := own_gtF (k := 65007) rfl (by omega)
  have t50 : ¬ ((65533 : Int32) < c) := own_gtF (k := 65533) rfl (by omega)
  have t51 : ¬ ((65535 : Int32) < c) := own_gtF (k := 65535) rfl (by omega)
  have t52 : ¬ ((983039 : Int32) < c) := own_gtF (k := 983039) rfl (by omega)
  simp only [own_f1_16, own_f1, own_f2_191, own_f2_195, own_f2_179, own_f2_167, own_f2_155, own_f2_142, own_f2_128, own_f2_114, own_f2_100, own_f2_86, own_f2_72, own_f2_58, own_f2_44, own_f2_24, own_f2_12, own_f2, own_f3_12, own_f3_65, own_f3_198, own_f3_184, own_f3_170, own_f3_156, own_f3_140, own_f3_124, own_f3_108, own_f3_83, own_f3_51, own_f3_28, own_f3, t0, t1, t2, t3, t4, t5, t6, t7, t8, t9, t10, t11, t12, t13, t14, t15, t16, t17, t18, t19, t20, t21, t22, t23, t24, t25, t26, t27, t28, t29, t30, t31, t32, t33, t34, t35, t36, t37, t38, t39, t40, t41, t42, t43, t44, t45, t46, t47, t48, t49, t50, t51, t52, own_10, own_01, ↓reduceIte]
theorem own_iv_21 (c : Int32) (h1 : 11264 ≤ c.toInt) (h2 : c.toInt ≤ 12271) : own_f1 c = 1 := by
  have t0 : ¬ (c < (65 : Int32)) := own_ltF (k := 65) rfl (by omega)
  have t1 : ¬ (c < (91 : Int32)) := own_ltF (k := 91) rfl (by omega)
  have t2 : ¬ (c < (97 : Int32)) := own_ltF (k := 97) rfl (by omega)
  have t3 : ¬ (c < (123 : Int32)) := own_ltF (k := 123) rfl (by omega)
  have t4 : ¬ (c < (192 : Int32)) := own_ltF (k := 192) rfl (by omega)
  have t5 : ¬ (c < (216 : Int32)) := own_ltF (k := 216) rfl (by omega)
  have t6 : ¬ (c < (248 : Int32)) := own_ltF (k := 248) rfl (by omega)
  have t7 : ¬ (c < (768 : Int32)) := own_ltF (k := 768) rfl (by omega)
  have t8 : ¬ (c < (880 : Int32)) := own_ltF (k := 880) rfl (by omega)
  have t9 : ¬ (c < (895 : Int32)) := own_ltF (k := 895) rfl (by omega)
  have t10 : ¬ (c < (8192 : Int32)) := own_ltF (k := 8192) rfl (by omega)
  have t11 : ¬ (c < (8204 : Int32)) := own_ltF (k := 8204) rfl (by omega)
  have t12 : ¬ (c < (8206 : Int32)) := own_ltF (k := 8206) rfl (by omega)
  have t13 : ¬ (c < (8304 : Int32)) := own_ltF (k := 8304) rfl (by omega)
  have t14 : ¬ (c < (8592 : Int32)) := own_ltF (k := 8592) rfl (by omega)
  have t15 : ¬ (c < (11264 : Int32)) := own_ltF (k := 11264) rfl (by omega)
  have t16 : c < (12272 : Int32) := own_ltT (k := 12272) rfl (by omega)
  have t17 : c < (12289 : Int32) := own_ltT (k := 12289) rfl (by omega)
  have t18 : c < (55296 : Int32) := own_ltT (k := 55296) rfl (by omega)
  have t19 : c < (63744 : Int32) := own_ltT (k := 63744) rfl (by omega)
  have t20 : c < (64976 : Int32) := own_ltT (k := 64976) rfl (by omega)
  have t21 : c < (65008 : Int32) := own_ltT (k := 65008) rfl (by omega)
  have t22 : c < (65534 : Int32) := own_ltT (k := 65534) rfl (by omega)
  have t23 : c < (65536 : Int32) := own_ltT (k := 65536) rfl (by omega)
  have t24 : ¬ (c = (95 : Int32)) := own_eqF (k := 95) rfl (by omega)
  have t25 : ¬ (c = (96 : Int32)) := own_eqF (k := 96) rfl (by omega)
  have t26 : ¬ (c = (215 : Int32)) := own_eqF (k := 215) rfl (by omega)
  have t27 : ¬ (c = (247 : Int32)) := own_eqF (k := 247) rfl (by omega)
  have t28 : ¬ (c = (894 : Int32)) := own_eqF (k := 894) rfl (by omega)
  have t29 : (90 : Int32) < c := own_gtT (k := 90) rfl (by omega)
  have t30 : (94 : Int32) < c := own_gtT (k := 94) rfl (by omega)
  have t31 : (122 : Int32) < c := own_gtT (k := 122) rfl (by omega)
  have t32 : (191 : Int32) < c := own_gtT (k := 191) rfl (by omega)
  have t33 : (214 : Int32) < c := own_gtT (k := 214) rfl (by omega)
  have t34 : (246 : Int32) < c := own_gtT (k := 246) rfl (by omega)
  have t35 : (767 : Int32) < c := own_gtT (k := 767) rfl (by omega)
  have t36 : (879 : Int32) < c := own_gtT (k := 879) rfl (by omega)
  have t37 : (893 : Int32) < c := own_gtT (k := 893) rfl (by omega)
  have t38 : (8191 : Int32) < c := own_gtT (k := 8191) rfl (by omega)
  have t39 : (8203 : Int32) < c := own_gtT (k := 8203) rfl (by omega)
  have t40 : (8205 : Int32) < c := own_gtT (k := 8205) rfl (by omega)
  have t41 : (8303 : Int32) < c := own_gtT (k := 8303) rfl (by omega)
  have t42 : (8591 : Int32) < c := own_gtT (k := 8591) rfl (by omega)
  have t43 : (11263 : Int32) < c := own_gtT (k := 11263) rfl (by omega)
  have t44 : ¬ ((12271 : Int32) < c) := own_gtF (k := 12271) rfl (by omega)
  have t45 : ¬ ((12288 : Int32) < c) := own_gtF (k := 12288) rfl (by omega)
  have t46 : ¬ ((55295 : Int32) < c) := own_gtF (k := 55295) rfl (by omega)
  have t47 : ¬ ((63743 : Int32) < c) := own_gtF (k := 63743) rfl (by omega)
  have t48 : ¬ ((64975 : Int32) < c) := own_gtF (k := 64975) rfl (by omega)
  have t49 : ¬ ((65007 : Int32) < c) := own_gtF (k := 65007) rfl (by omega)
  have t50 : ¬ ((65533 : Int32) < c) := own_gtF (k := 65533) rfl (by omega)
  have t51 : ¬ ((65535 : Int32) < c) := own_gtF (k := 65535) rfl (by omega)
  have t52 : ¬ ((983039 : Int32) < c) := own_gtF (k := 983039) rfl (by omega)
  simp only [own_f1_16, own_f1, own_f2_191, own_f2_195, own_f2_179, own_f2_167, own_f2_155, own_f2_142, own_f2_128, own_f2_114, own_f2_100, own_f2_86, own_f2_72, own_f2_58, own_f2_44, own_f2_24, own_f2_12, own_f2, own_f3_12, own_f3_65, own_f3_198, own_f3_184, own_f3_170, own_f3_156, own_f3_140, own_f3_124, own_f3_108, own_f3_83, own_f3_51, own_f3_28, own_f3, t0, t1, t2, t3, t4, t5, t6, t7, t8, t9, t10, t11, t12, t13, t14, t15, t16, t17, t18, t19, t20, t21, t22, t23, t24, t25, t26, t27, t28, t29, t30, t31, t32, t33, t34, t35, t36, t37, t38, t39, t40, t41, t42, t43, t44, t45, t46, t47, t48, t49, t50, t51, t52, own_10, own_01, ↓reduceIte]
theorem own_iv_22 (c : Int32) (h1 : 12272 ≤ c.toInt) (h2 : c.toInt ≤ 12288) : own_f1 c = 1 := by
  have t0 : ¬ (c < (65 : Int32)) := own_ltF (k := 65) rfl (by omega)
  have t1 : ¬ (c < (91 : Int32)) := own_ltF (k := 91) rfl (by omega)
  have t2 : ¬ (c < (97 : Int32)) := own_ltF (k := 97) rfl (by omega)
  have t3 : ¬ (c < (123 : Int32)) := own_ltF (k := 123) rfl (by omega)
  have t4 : ¬ (c < (192 : Int32)) := own_ltF (k := 192) rfl (by omega)
  have t5 : ¬ (c < (216 : Int32)) := own_ltF (k := 216) rfl (by omega)
  have t6 : ¬ (c < (248 : Int32)) := own_ltF (k := 248) rfl (by omega)
  have t7 : ¬ (c < (768 : Int32)) := own_ltF (k := 768) rfl (by omega)
  have t8 : ¬ (c < (880 : Int32)) := own_ltF (k := 880) rfl (by omega)
  have t9 : ¬ (c < (895 : Int32)) := own_ltF (k := 895) rfl (by omega)
  have t10 : ¬ (c < (8192 : Int32)) := own_ltF (k := 8192) rfl (by omega)
  have t11 : ¬ (c < (8204 : Int32)) := own_ltF (k := 8204) rfl (by omega)
  have t12 : ¬ (c < (8206 : Int32)) := own_ltF (k := 8206) rfl (by omega)
  have t13 : ¬ (c < (8304 : Int32)) := own_ltF (k := 8304) rfl (by omega)
  have t14 : ¬ (c < (8592 : Int32)) := own_ltF (k := 8592) rfl (by omega)
  have t15 : ¬ (c < (11264 : Int32)) := own_ltF (k := 11264) rfl (by omega)
  have t16 : ¬ (c < (12272 : Int32)) := own_ltF (k := 12272) rfl (by omega)
  have t17 : c < (12289 : Int32) := own_ltT (k := 12289) rfl (by omega)
  have t18 : c < (55296 : Int32) := own_ltT (k := 55296) rfl (by omega)
  have t19 : c < (63744 : Int32) := own_ltT (k := 63744) rfl (by omega)
  have t20 : c < (64976 : Int32) := own_ltT (k := 64976) rfl (by omega)
  have t21 : c < (65008 : Int32) := own_ltT (k := 65008) rfl (by omega)
  have t22 : c < (65534 : Int32) := own_ltT (k := 65534) rfl (by omega)
  have t23 : c < (65536 : Int32) := own_ltT (k := 65536) rfl (by omega)
  have t24 : ¬ (c = (95 : Int32)) := own_eqF (k := 95) rfl (by omega)
  have t25 : ¬ (c = (96 : Int32)) := own_eqF (k := 96) rfl (by omega)
  have t26 : ¬ (c = (215 : Int32)) := own_eqF (k := 215) rfl (by omega)
  have t27 : ¬ (c = (247 : Int32)) := own_eqF (k := 247) rfl (by omega)
  have t28 : ¬ (c = (894 : Int32)) := own_eqF (k := 894) rfl (by omega)
  have t29 : (90 : Int32) < c := own_gtT (k := 90) rfl (by omega)
  have t30 : (94 : Int32) < c := own_gtT (k := 94) rfl (by omega)
  have t31 : (122 : Int32) < c := own_gtT (k := 122) rfl (by omega)
  have t32 : (191 : Int32) < c := own_gtT (k := 191) rfl (by omega)
  have t33 : (214 : Int32) < c := own_gtT (k := 214) rfl (by omega)
  have t34 : (246 : Int32) < c := own_gtT (k := 246) rfl (by omega)
  have t35 : (767 : Int32) < c := own_gtT (k := 767) rfl (by omega)
  have t36 : (879 : Int32) < c := own_gtT (k := 879) rfl (by omega)
  have t37 : (893 : Int32) < c := own_gtT (k := 893) rfl (by omega)
  have t38 : (8191 : Int32) < c := own_gtT (k := 8191) rfl (by omega)
  have t39 : (8203 : Int32) < c := own_gtT (k := 8203) rfl (by omega)
  have t40 : (8205 : Int32) < c := own_gtT (k := 8205) rfl (by omega)
  have t41 : (8303 : Int32) < c := own_gtT (k := 8303) rfl (by omega)
  have t42 : (8591 : Int32) < c := own_gtT (k := 8591) rfl (by omega)
  have t43 : (11263 : Int32) < c := own_gtT (k := 11263) rfl (by omega)
  have t44 : (12271 : Int32) < c := own_gtT (k := 12271) rfl (by omega)
  have t45 : ¬ ((12288 : Int32) < c) := own_gtF (k := 12288) rfl (by omega)
  have t46 : ¬ ((55295 : Int32) < c) := own_gtF (k := 55295) rfl (by omega)
  have t47 : ¬ ((63743 : Int32) < c) := own_gtF (k := 63743) rfl (by omega)
  have t48 : ¬ ((64975 : Int32) < c) := own_gtF (k := 64975) rfl (by omega)
  have t49 : ¬ ((65007 : Int32) < c) := own_gtF (k := 65007) rfl (by omega)
  have t50 : ¬ ((65533 : Int32) < c) := own_gtF (k := 65533) rfl (by omega)
  have t51 : ¬ ((65535 : Int32) < c) := own_gtF (k := 65535) rfl (by omega)
  have t52 : ¬ ((983039 : Int32) < c) := own_gtF (k := 983039) rfl (by omega)
  simp only [own_f1_16, own_f1, own_f2_191, own_f2_195, own_f2_179, own_f2_167, own_f2_155, own_f2_142, own_f2_128, own_f2_114, own_f2_100, own_f2_86, own_f2_72, own_f2_58, own_f2_44, own_f2_24, own_f2_12, own_f2, own_f3_12, own_f3_65, own_f3_198, own_f3_184, own_f3_170, own_f3_156, own_f3_140, own_f3_124, own_f3_108, own_f3_83, own_f3_51, own_f3_28, own_f3, t0, t1, t2, t3, t4, t5, t6, t7, t8, t9, t10, t11, t12, t13, t14, t15, t16, t17, t18, t19, t20, t21, t22, t23, t24, t25, t26, t27, t28, t29, t30, t31, t32, t33, t34, t35, t36, t37, t38, t39, t40, t41, t42, t43, t44, t45, t46, t47, t48, t49, t50, t51, t52, own_10, own_01, ↓reduceIte]
theorem own_iv_23 (c : Int32) (h1 : 12289 ≤ c.toInt) (h2 : c.toInt ≤ 55295) : own_f1 c = 1 := by
  have t0 : ¬ (c < (65 : Int32)) := own_ltF (k := 65) rfl (by omega)
  have t1 : ¬ (c < (91 : Int32)) := own_ltF (k := 91) rfl (by omega)
  have t2 : ¬ (c < (97 : Int32)) := own_ltF (k := 97) rfl (by omega)
  have t3 : ¬ (c < (123 : Int32)) := own_ltF (k := 123) rfl (by omega)
  have t4 : ¬ (c < (192 : Int32)) := own_ltF (k := 192) rfl (by omega)
  have t5 : ¬ (c < (216 : Int32)) := own_ltF (k := 216) rfl (by omega)
  have t6 : ¬ (c < (248 : Int32)) := own_ltF (k := 248) rfl (by omega)
  have t7 : ¬ (c < (768 : Int32)) := own_ltF (k := 768) rfl (by omega)
  have t8 : ¬ (c < (880 : Int32)) := own_ltF (k := 880) rfl (by omega)
  have t9 : ¬ (c < (895 : Int32)) := own_ltF (k := 895) rfl (by omega)
  have t10 : ¬ (c < (8192 : Int32)) := own_ltF (k := 8192) rfl (by omega)
  have t11 : ¬ (c < (8204 : Int32)) := own_ltF (k := 8204) rfl (by omega)
  have t12 : ¬ (c < (8206 : Int32)) := own_ltF (k := 8206) rfl (by omega)
  have t13 : ¬ (c < (8304 : Int32)) := own_ltF (k := 8304) rfl (by omega)
  have t14 : ¬ (c < (8592 : Int32)) := own_ltF (k := 8592) rfl (by omega)
  have t15 : ¬ (c < (11264 : Int32)) := own_ltF (k := 11264) rfl (by omega)
  have t16 : ¬ (c < (12272 : Int32)) := own_ltF (k := 12272) rfl (by omega)
  have t17 : ¬ (c < (12289 : Int32)) := own_ltF (k := 12289) rfl (by omega)
  have t18 : c < (55296 : Int32) := own_ltT (k := 55296) rfl (by omega)
  have t19 : c < (63744 : Int32) := own_ltT (k := 63744) rfl (by omega)
  have t20 : c < (64976 : Int32) := own_ltT (k := 64976) rfl (by omega)
  have t21 : c < (65008 : Int32) := own_ltT (k := 65008) rfl (by omega)
  have t22 : c < (65534 : Int32) := own_ltT (k := 65534) rfl (by omega)
  have t23 : c < (65536 : Int32) := own_ltT (k := 65536) rfl (by omega)
  have t24 : ¬ (c = (95 : Int32)) := own_eqF (k := 95) rfl (by omega)
  have t25 : ¬ (c = (96 : Int32)) := own_eqF (k := 96) rfl (by omega)
  have t26 : ¬ (c = (215 : Int32)) := own_eqF (k := 215) rfl (by omega)
  have t27 : ¬ (c = (247 : Int32)) := own_eqF (k := 247) rfl (by omega)
  have t28 : ¬ (c = (894 : Int32)) := own_eqF (k := 894) rfl (by omega)
  have t29 : (90 : Int32) < c := own_gtT (k := 90) rfl (by omega)
  have t30 : (94 : Int32) < c := own_gtT (k := 94) rfl (by omega)
  have t31 : (122 : Int32) < c := own_gtT (k := 122) rfl (by omega)
  have t32 : (191 : Int32) < c := own_gtT (k := 191) rfl (by omega)
  have t33 : (214 : Int32) < c := own_gtT (k := 214) rfl (by omega)
  have t34 : (246 : Int32) < c := own_gtT (k := 246) rfl (by omega)
  have t35 : (767 : Int32) < c := own_gtT (k := 767) rfl (by omega)
  have t36 : (879 : Int32) < c := own_gtT (k := 879) rfl (by omega)
  have t37 : (893 : Int32) < c := own_gtT (k := 893) rfl (by omega)
  have t38 : (8191 : Int32) < c := own_gtT (k := 8191) rfl (by omega)
  have t39 : (8203 : Int32) < c := own_gtT (k := 8203) rfl (by omega)
  have t40 : (8205 : Int32) < c := own_gtT (k := 8205) rfl (by omega)
  have t41 : (8303 : Int32) < c := own_gtT (k := 8303) rfl (by omega)
  have t42 : (8591 : Int32) < c := own_gtT (k := 8591) rfl (by omega)
  have t43 : (11263 : Int32) < c := own_gtT (k := 11263) rfl (by omega)
  have t44 : (12271 : Int32) < c := own_gtT (k := 12271) rfl (by omega)
  have t45 : (12288 : Int32) < c := own_gtT (k := 12288) rfl (by omega)
  have t46 : ¬ ((55295 : Int32) < c) := own_gtF (k := 55295) rfl (by omega)
  have t47 : ¬ ((63743 : Int32) < c) := own_gtF (k := 63743) rfl (by omega)
  have t48 : ¬ ((64975 : Int32) < c) := own_gtF (k := 64975) rfl (by omega)
  have t49 : ¬ ((65007 : Int32) < c) := own_gtF (k := 65007) rfl (by omega)
  have t50 : ¬ ((65533 : Int32) < c) := own_gtF (k := 65533) rfl (by omega)
  have t51 : ¬ ((65535 : Int32) < c) := own_gtF (k := 65535) rfl (by omega)
  have t52 : ¬ ((983039 : Int32) < c) := own_gtF (k := 983039) rfl (by omega)
  simp only [own_f1_16, own_f1, own_f2_191, own_f2_195, own_f2_179, own_f2_167, own_f2_155, own_f2_142, own_f2_128, own_f2_114, own_f2_100, own_f2_86, own_f2_72, own_f2_58, own_f2_44, own_f2_24, own_f2_12, own_f2, own_f3_12, own_f3_65, own_f3_198, own_f3_184, own_f3_170, own_f3_156, own_f3_140, own_f3_124, own_f3_108, own_f3_83, own_f3_51, own_f3_28, own_f3, t0, t1, t2, t3, t4, t5, t6, t7, t8, t9, t10, t11, t12, t13, t14, t15, t16, t17, t18, t19, t20, t21, t22, t23, t24, t25, t26, t27, t28, t29, t30, t31, t32, t33, t34, t35, t36, t37, t38, t39, t40, t41, t42, t43, t44, t45, t46, t47, t48, t49, t50, t51, t52, own_10, own_01, ↓reduceIte]
theorem own_iv_24 (c : Int32) (h1 : 55296 ≤ c.toInt) (h2 : c.toInt ≤ 63743) : own_f1 c = 1 := by
  have t0 : ¬ (c < (65 : Int32)) := own_ltF (k := 65) rfl (by omega)
  have t1 : ¬ (c < (91 : Int32)) := own_ltF (k := 91) rfl (by omega)
  have t2 : ¬ (c < (97 : Int32)) := own_ltF (k := 97) rfl (by omega)
  have t3 : ¬ (c < (123 : Int32)) := own_ltF (k := 123) rfl (by omega)
  have t4 : ¬ (c < (192 : Int32)) := own_ltF (k := 192) rfl (by omega)
  have t5 : ¬ (c < (216 : Int32)) := own_ltF (k := 216) rfl (by omega)
  have t6 : ¬ (c < (248 : Int32)) := own_ltF (k := 248) rfl (by omega)
  have t7 : ¬ (c < (768 : Int32)) := own_ltF (k := 768) rfl (by omega)
  have t8 : ¬ (c < (880 : Int32)) := own_ltF (k := 880) rfl (by omega)
  have t9 : ¬ (c < (895 : Int32)) := own_ltF (k := 895) rfl (by omega)
  have t10 : ¬ (c < (8192 : Int32)) := own_ltF (k := 8192) rfl (by omega)
  have t11 : ¬ (c < (8204 : Int32)) := own_ltF (k := 8204) rfl (by omega)
  have t12 : ¬ (c < (8206 : Int32)) := own_ltF (k := 8206) rfl (by omega)
  have t13 : ¬ (c < (8304 : Int32)) := own_ltF (k := 8304) rfl (by omega)
  have t14 : ¬ (c < (8592 : Int32)) := own_ltF (k := 8592) rfl (by omega)
  have t15 : ¬ (c < (11264 : Int32)) := own_ltF (k := 11264) rfl (by omega)
  have t16 : ¬ (c < (12272 : Int32)) := own_ltF (k := 12272) rfl (by omega)
  have t17 : ¬ (c < (12289 : Int32)) := own_ltF (k := 12289) rfl (by omega)
  have t18 : ¬ (c < (55296 : Int32)) := own_ltF (k := 55296) rfl (by omega)
  have t19 : c < (63744 : Int32) := own_ltT (k := 63744) rfl (by omega)
  have t20 : c < (64976 : Int32) := own_ltT (k := 64976) rfl (by omega)
  have t21 : c < (65008 : Int32) := own_ltT (k := 65008) rfl (by omega)
  have t22 : c < (65534 : Int32) := own_ltT (k := 65534) rfl (by omega)
  have t23 : c < (65536 : Int32) := own_ltT (k := 65536) rfl (by omega)
  have t24 : ¬ (c = (95 : Int32)) := own_eqF (k := 95) rfl (by omega)
  have t25 : ¬ (c = (96 : Int32)) := own_eqF (k := 96) rfl (by omega)
  have t26 : ¬ (c = (215 : Int32)) := own_eqF (k := 215) rfl (by omega)
  have t27 : ¬ (c = (247 : Int32)) := own_eqF (k := 247) rfl (by omega)
  have t28 : ¬ (c = (894 : Int32)) := own_eqF (k := 894) rfl (by omega)
  have t29 : (90 : Int32) < c := own_gtT (k := 90) rfl (by omega)
  have t30 : (94 : Int32) < c := own_gtT (k := 94) rfl (by omega)
  have t31 : (122 : Int32) < c := own_gtT (k := 122) rfl (by omega)
  have t32 : (191 : Int32) < c := own_gtT (k := 191) rfl (by omega)
  have t33 : (214 : Int32) < c := own_gtT (k := 214) rfl (by omega)
  have t34 : (246 : Int32) < c := own_gtT (k := 246) rfl (by omega)
  have t35 : (767 : Int32) < c := own_gtT (k := 767) rfl (by omega)
  have t36 : (879 : Int32) < c := own_gtT (k := 879) rfl (by omega)
  have t37 : (893 : Int32) < c := own_gtT (k := 893) rfl (by omega)
  have t38 : (8191 : Int32) < c := own_gtT (k := 8191) rfl (by omega)
  have t39 : (8203 : Int32) < c := own_gtT (k := 8203) rfl (by omega)
  have t40 : (8205 : Int32) < c := own_gtT (k := 8205) rfl (by omega)
  have t41 : (8303 : Int32) < c := own_gtT (k := 8303) rfl (by omega)
  have t42 : (8591 : Int32) < c := own_gtT (k := 8591) rfl (by omega)
  have t43 : (11263 : Int32) < c := own_gtT (k := 11263) rfl (by omega)
  have t44 : (12271 : Int32) < c := own_gtT (k := 12271) rfl (by omega)
  have t45 : (12288 : Int32) < c := own_gtT (k := 12288) rfl (by omega)
  have t46 : (55295 : Int32) < c := own_gtT (k := 55295) rfl (by omega)
  have t47 : ¬ ((63743 : Int32) < c) := own_gtF (k := 63743) rfl (by omega)
  have t48 : ¬ ((64975 : Int32) < c) := own_gtF (k := 64975) rfl (by omega)
  have t49 : ¬ ((65007 : Int32) < c) := own_gtF (k := 65007) rfl (by omega)
  have t50 : ¬ ((65533 : Int32) < c) := own_gtF (k := 65533) rfl (by omega)
  have t51 : ¬ ((65535 : Int32) < c) := own_gtF (k := 65535) rfl (by omega)
  have t52 : ¬ ((983039 : Int32) < c) := own_gtF (k := 983039) rfl (by omega)
  simp only [own_f1_16, own_f1, own_f2_191, own_f2_195, own_f2_179, own_f2_167, own_f2_155, own_f2_142, own_f2_128, own_f2_114, own_f2_100, own_f2_86, own_f2_72, own_f2_58, own_f2_44, own_f2_24, own_f2_12, own_f2, own_f3_12, own_f3_65, own_f3_198, own_f3_184, own_f3_170, own_f3_156, own_f3_140, own_f3_124, own_f3_108, own_f3_83, own_f3_51, own_f3_28, own_f3, t0, t1, t2, t3, t4, t5, t6, t7, t8, t9, t10, t11, t12, t13, t14, t15, t16, t17, t18, t19, t20, t21, t22, t23, t24, t25, t26, t27, t28, t29, t30, t31, t32, t33, t34, t35, t36, t37, t38, t39, t40, t41, t42, t43, t44, t45, t46, t47, t48, t49, t50, t51, t52, own_10, own_01, ↓reduceIte]
theorem own_iv_25 (c : Int32) (h1 : 63744 ≤ c.toInt) (h2 : c.toInt ≤ 64975) : own_f1 c = 1 := by
  have t0 : ¬ (c < (65 : Int32)) := own_ltF (k := 65) rfl (by omega)
  have t1 : ¬ (c < (91 : Int32)) := own_ltF (k := 91) rfl (by omega)
  have t2 : ¬ (c < (97 : Int32)) := own_ltF (k := 97) rfl (by omega)
  have t3 : ¬ (c < (123 : Int32)) := own_ltF (k := 123) rfl (by omega)
  have t4 : ¬ (c < (192 : Int32)) := own_ltF (k := 192) rfl (by omega)
  have t5 : ¬ (c < (216 : Int32)) := own_ltF (k := 216) rfl (by omega)
  have t6 : ¬ (c < (248 : Int32)) := own_ltF (k := 248) rfl (by omega)
  have t7 : ¬ (c < (768 : Int32)) := own_ltF (k := 768) rfl (by omega)
  have t8 : ¬ (c < (880 : Int32)) := own_ltF (k := 880) rfl (by omega)
  have t9 : ¬ (c < (895 : Int32)) := own_ltF (k := 895) rfl (by omega)
  have t10 : ¬ (c < (8192 : Int32)) := own_ltF (k := 8192) rfl (by omega)
  have t11 : ¬ (c < (8204 : Int32)) := own_ltF (k := 8204) rfl (by omega)
  have t12 : ¬ (c < (8206 : Int32)) := own_ltF (k := 8206) rfl (by omega)
  have t13 : ¬ (c < (8304 : Int32)) := own_ltF (k := 8304) rfl (by omega)
  have t14 : ¬ (c < (8592 : Int32)) := own_ltF (k := 8592) rfl (by omega)
  have t15 : ¬ (c < (11264 : Int32)) := own_ltF (k := 11264) rfl (by omega)
  have t16 : ¬ (c < (12272 : Int32)) := own_ltF (k := 12272) rfl (by omega)
  have t17 : ¬ (c < (12289 : Int32)) := own_ltF (k := 12289) rfl (by omega)
  have t18 : ¬ (c < (55296 : Int32)) := own_ltF (k := 55296) rfl (by omega)
  have t19 : ¬ (c < (63744 : Int32)) := own_ltF (k := 63744) rfl (by omega)
  have t20 : c < (64976 : Int32) := own_ltT (k := 64976) rfl (by omega)
  have t21 : c < (65008 : Int32) := own_ltT (k := 65008) rfl (by omega)
  have t22 : c < (65534 : Int32) := own_ltT (k := 65534) rfl (by omega)
  have t23 : c < (65536 : Int32) := own_ltT (k := 65536) rfl (by omega)
  have t24 : ¬ (c = (95 : Int32)) := own_eqF (k := 95) rfl (by omega)
  have t25 : ¬ (c = (96 : Int32)) := own_eqF (k := 96) rfl (by omega)
  have t26 : ¬ (c = (215 : Int32)) := own_eqF (k := 215) rfl (by omega)
  have t27 : ¬ (c = (247 : Int32)) := own_eqF (k := 247) rfl (by omega)
  have t28 : ¬ (c = (894 : Int32)) := own_eqF (k := 894) rfl (by omega)
  have t29 : (90 : Int32) < c := own_gtT (k := 90) rfl (by omega)
  have t30 : (94 : Int32) < c := own_gtT (k := 94) rfl (by omega)
  have t31 : (122 : Int32) < c := own_gtT (k := 122) rfl (by omega)
  have t32 : (191 : Int32) < c := own_gtT (k := 191) rfl (by omega)
  have t33 : (214 : Int32) < c := own_gtT (k := 214) rfl (by omega)
  have t34 : (246 : Int32) < c := own_gtT (k := 246) rfl (by omega)
  have t35 : (767 : Int32) < c := own_gtT (k := 767) rfl (by omega)
  have t36 : (879 : Int32) < c := own_gtT (k := 879) rfl (by omega)
  have t37 : (893 : Int32) < c := own_gtT (k := 893) rfl (by omega)
  have t38 : (8191 : Int32) < c := own_gtT (k := 8191) rfl (by omega)
  have t39 : (8203 : Int32) < c := own_gtT (k := 8203) rfl (by omega)
  have t40 : (8205 : Int32) < c := own_gtT (k := 8205) rfl (by omega)
  have t41 : (8303 : Int32) < c := own_gtT (k := 8303) rfl (by omega)
  have t42 : (8591 : Int32) < c := own_gtT (k := 8591) rfl (by omega)
  have t43 : (11263 : Int32) < c := own_gtT (k := 11263) rfl (by omega)
  have t44 : (12271 : Int32) < c := own_gtT (k := 12271) rfl (by omega)
  have t45 : (12288 : Int32) < c := own_gtT (k := 12288) rfl (by omega)
  have t46 : (55295 : Int32) < c := own_gtT (k := 55295) rfl (by omega)
  have t47 : (63743 : Int32) < c := own_gtT (k := 63743) rfl (by omega)
  have t48 : ¬ ((64975 : Int32) < c) := own_gtF (k := 64975) rfl (by omega)
  have t49 : ¬ ((65007 : Int32) < c) := own_gtF (k := 65007) rfl (by omega)
  have t50 : ¬ ((65533 : Int32) < c) := own_gtF (k := 65533) rfl (by omega)
  have t51 : ¬ ((65535 : Int32) < c) := own_gtF (k := 65535) rfl (by omega)
  have t52 : ¬ ((983039 : Int32) < c) := own_gtF (k := 983039) rfl (by omega)
  simp only [own_f1_16, own_f1, own_f2_191, own_f2_195, own_f2_179, own_f2_167, own_f2_155, own_f2_142, own_f2_128, own_f2_114, own_f2_100, own_f2_86, own_f2_72, own_f2_58, own_f2_44, own_f2_24, own_f2_12, own_f2, own_f3_12, own_f3_65, own_f3_198, own_f3_184, own_f3_170, own_f3_156, own_f3_140, own_f3_124, own_f3_108, own_f3_83, own_f3_51, own_f3_28, own_f3, t0, t1, t2, t3, t4, t5, t6, t7, t8, t9, t10, t11, t12, t13, t14, t15, t16, t17, t18, t19, t20, t21, t22, t23, t24, t25, t26, t27, t28, t29, t30, t31, t32, t33, t34, t35, t36, t37, t38, t39, t40, t41, t42, t43, t44, t45, t46, t47, t48, t49, t50, t51, t52, own_10, own_01, ↓reduceIte]
theorem own_iv_26 (c : Int32) (h1 : 64976 ≤ c.toInt) (h2 : c.toInt ≤ 65007) : own_f1 c = 1 := by
  have t0 : ¬ (c < (65 : Int32)) := own_ltF (k := 65) rfl (by omega)
  have t1 : ¬ (c < (91 : Int32)) := own_ltF (k := 91) rfl (by omega)
  have t2 : ¬ (c < (97 : Int32)) := own_ltF (k := 97) rfl (by omega)
  have t3 : ¬ (c < (123 : Int32)) := own_ltF (k := 123) rfl (by omega)
  have t4 : ¬ (c < (192 : Int32)) := own_ltF (k := 192) rfl (by omega)
  have t5 : ¬ (c < (216 : Int32)) := own_ltF (k := 216) rfl (by omega)
  have t6 : ¬ (c < (248 : Int32)) := own_ltF (k := 248) rfl (by omega)
  have t7 : ¬ (c < (768 : Int32)) := own_ltF (k := 768) rfl (by omega)
  have t8 : ¬ (c < (880 : Int32)) := own_ltF (k := 880) rfl (by omega)
  have t9 : ¬ (c < (895 : Int32)) := own_ltF (k := 895) rfl (by omega)
  have t10 : ¬ (c < (8192 : Int32)) := own_ltF (k := 8192) rfl (by omega)
  have t11 : ¬ (c < (8204 : Int32)) := own_ltF (k := 8204) rfl (by omega)
  have t12 : ¬ (c < (8206 : Int32)) := own_ltF (k := 8206) rfl (by omega)
  have t13 : ¬ (c < (8304 : Int32)) := own_ltF (k := 8304) rfl (by omega)
  have t14 : ¬ (c < (8592 : Int32)) := own_ltF (k := 8592) rfl (by omega)
  have t15 : ¬ (c < (11264 : Int32)) := own_ltF (k := 11264) rfl (by omega)
  have t16 : ¬ (c < (12272 : Int32)) := own_ltF (k := 12272) rfl (by omega)
  have t17 : ¬ (c < (12289 : Int32)) := own_ltF (k := 12289) rfl (by omega)
  have t18 : ¬ (c < (55296 : Int32)) := own_ltF (k := 55296) rfl (by omega)
  have t19 : ¬ (c < (63744 : Int32)) := own_ltF (k := 63744) rfl (by omega)
  have t20 : ¬ (c < (64976 : Int32)) := own_ltF (k := 64976) rfl (by omega)
  have t21 : c < (65008 : Int32) := own_ltT (k := 65008) rfl (by omega)
  have t22 : c < (65534 : Int32) := own_ltT (k := 65534) rfl (by omega)
  have t23 : c < (65536 : Int32) := own_ltT (k := 65536) rfl (by omega)
  have t24 : ¬ (c = (95 : Int32)) := own_eqF (k := 95) rfl (by omega)
  have t25 : ¬ (c = (96 : Int32)) := own_eqF (k := 96) rfl (by omega)
  have t26 : ¬ (c = (215 : Int32)) := own_eqF (k := 215) rfl (by omega)
  have t27 : ¬ (c = (247 : Int32)) := own_eqF (k := 247) rfl (by omega)
  have t28 : ¬ (c = (894 : Int32)) := own_eqF (k := 894) rfl (by omega)
  have t29 : (90 : Int32) < c := own_gtT (k := 90) rfl (by omega)
  have t30 : (94 : Int32) < c := own_gtT (k := 94) rfl (by omega)
  have t31 : (122 : Int32) < c := own_gtT (k := 122) rfl (by omega)
  have t32 : (191 : Int32) < c := own_gtT (k := 191) rfl (by omega)
  have t33 : (214 : Int32) < c := own_gtT (k := 214) rfl (by omega)
  have t34 : (246 : Int32) < c := own_gtT (k := 246) rfl (by omega)
  have t35 : (767 : Int32) < c := own_gtT (k := 767) rfl (by omega)
  have t36 : (879 : Int32) < c := own_gtT (k := 879) rfl (by omega)
  have t37 : (893 : Int32) < c := own_gtT (k := 893) rfl (by omega)
  have t38 : (8191 : Int32) < c := own_gtT (k := 8191) rfl (by omega)
  have t39 : (8203 : Int32) < c := own_gtT (k := 8203) rfl (by omega)
  have t40 : (8205 : Int32) < c := own_gtT (k := 8205) rfl (by omega)
  have t41 : (8303 : Int32) < c := own_gtT (k := 8303) rfl (by omega)
  have t42 : (8591 : Int32) < c := own_gtT (k := 8591) rfl (by omega)
  have t43 : (11263 : Int32) < c := own_gtT (k := 11263) rfl (by omega)
  have t44 : (12271 : Int32) < c := own_gtT (k := 12271) rfl (by omega)
  have t45 : (12288 : Int32) < c := own_gtT (k := 12288) rfl (by omega)
  have t46 : (55295 : Int32) < c := own_gtT (k := 55295) rfl (by omega)
  have t47 : (63743 : Int32) < c := own_gtT (k := 63743) rfl (by omega)
  have t48 : (64975 : Int32) < c := own_gtT (k := 64975) rfl (by omega)
  have t49 : ¬ ((65007 : Int32) < c) := own_gtF (k := 65007) rfl (by omega)
  have t50 : ¬ ((65533 : Int32) < c) := own_gtF (k := 65533) rfl (by omega)
  have t51 : ¬ ((65535 : Int32) < c) := own_gtF (k := 65535) rfl (by omega)
  have t52 : ¬ ((983039 : Int32) < c) := own_gtF (k := 983039) rfl (by omega)
  simp only [own_f1_16, own_f1, own_f2_191, own_f2_195, own_f2_179, own_f2_167, own_f2_155, own_f2_142, own_f2_128, own_f2_114, own_f2_100, own_f2_86, own_f2_72, own_f2_58, own_f2_44, own_f2_24, own_f2_12, own_f2, own_f3_12, own_f3_65, own_f3_198, own_f3_184, own_f3_170, own_f3_156, own_f3_140, own_f3_124, own_f3_108, own_f3_83, own_f3_51, own_f3_28, own_f3, t0, t1, t2, t3, t4, t5, t6, t7, t8, t9, t10, t11, t12, t13, t14, t15, t16, t17, t18, t19, t20, t21, t22, t23, t24, t25, t26, t27, t28, t29, t30, t31, t32, t33, t34, t35, t36, t37, t38, t39, t40, t41, t42, t43, t44, t45, t46, t47, t48, t49, t50, t51, t52, own_10, own_01, ↓reduceIte]
theorem own_iv_27 (c : Int32) (h1 : 65008 ≤ c.toInt) (h2 : c.toInt ≤ 65533) : own_f1 c = 1 := by
  have t0 : ¬ (c < (65 : Int32)) := own_ltF (k := 65) rfl (by omega)
  have t1 : ¬ (c < (91 : Int32)) := own_ltF (k := 91) rfl (by omega)
  have t2 : ¬ (c < (97 : Int32)) := own_ltF (k := 97) rfl (by omega)
  have t3 : ¬ (c < (123 : Int32)) := own_ltF (k := 123) rfl (by omega)
  have t4 : ¬ (c < (192 : Int32)) := own_ltF (k := 192) rfl (by omega)
  have t5 : ¬ (c < (216 : Int32)) := own_ltF (k := 216) rfl (by omega)
  have t6 : ¬ (c < (248 : Int32)) := own_ltF (k := 248) rfl (by omega)
  have t7 : ¬ (c < (768 : Int32)) := own_ltF (k := 768) rfl (by omega)
  have t8 : ¬ (c < (880 : Int32)) := own_ltF (k := 880) rfl (by omega)
  have t9 : ¬ (c < (895 : Int32)) := own_ltF (k := 895) rfl (by omega)
  have t10 : ¬ (c < (8192 : Int32)) := own_ltF (k := 8192) rfl (by omega)
  have t11 : ¬ (c < (8204 : Int32)) := own_ltF (k := 8204) rfl (by omega)
  have t12 : ¬ (c < (8206 : Int32)) := own_ltF (k := 8206) rfl (by omega)
  have t13 : ¬ (c < (8304 : Int32)) := own_ltF (k := 8304) rfl (by omega)
  have t14 : ¬ (c < (8592 : Int32)) := own_ltF (k := 8592) rfl (by omega)
  have t15 : ¬ (c < (11264 : Int32)) := own_ltF (k := 11264) rfl (by omega)
  have t16 : ¬ (c < (12272 : Int32)) := own_ltF (k := 12272) rfl (by omega)
  have t17 : ¬ (c < (12289 : Int32)) := own_ltF (k := 12289) rfl (by omega)
  have t18 : ¬ (c < (55296 : Int32)) := own_ltF (k := 55296) rfl (by omega)
  have t19 : ¬ (c < (63744 : Int32)) := own_ltF (k := 63744) rfl (by omega)
  have t20 : ¬ (c < (64976 : Int32)) := own_ltF (k := 64976) rfl (by omega)
  have t21 : ¬ (c < (65008 : Int32)) := own_ltF (k := 65008) rfl (by omega)
  have t22 : c < (65534 : Int32) := own_ltT (k := 65534) rfl (by omega)
  have t23 : c < (65536 : Int32) := own_ltT (k := 65536) rfl (by omega)
  have t24 : ¬ (c = (95 : Int32)) := own_eqF (k := 95) rfl (by omega)
  have t25 : ¬ (c = (96 : Int32)) := own_eqF (k := 96) rfl (by omega)
  have t26 : ¬ (c = (215 : Int32)) := own_eqF (k := 215) rfl (by omega)
  have t27 : ¬ (c = (247 : Int32)) := own_eqF (k := 247) rfl (by omega)
  have t28 : ¬ (c = (894 : Int32)) := own_eqF (k := 894) rfl (by omega)
  have t29 : (90 : Int32) < c := own_gtT (k := 90) rfl (by omega)
  have t30 : (94 : Int32) < c := own_gtT (k := 94) rfl (by omega)
  have t31 : (122 : Int32) < c := own_gtT (k := 122) rfl (by omega)
  have t32 : (191 : Int32) < c := own_gtT (k := 191) rfl (by omega)
  have t33 : (214 : Int32) < c := own_gtT (k := 214) rfl (by omega)
  have t34 : (246 : Int32) < c := own_gtT (k := 246) rfl (by omega)
  have t35 : (767 : Int32) < c := own_gtT (k := 767) rfl (by omega)
  have t36 : (879 : Int32) < c := own_gtT (k := 879) rfl (by omega)
  have t37 : (893 : Int32) < c := own_gtT (k := 893) rfl (by omega)
  have t38 : (8191 : Int32) < c := own_gtT (k := 8191) rfl (by omega)
  have t39 : (8203 : Int32) < c := own_gtT (k := 8203) rfl (by omega)
  have t40 : (8205 : Int32) < c := own_gtT (k := 8205) rfl (by omega)
  have t41 : (8303 : Int32) < c := own_gtT (k := 8303) rfl (by omega)
  have t42 : (8591 : Int32) < c := own_gtT (k := 8591) rfl (by omega)
  have t43 : (11263 : Int32) < c := own_gtT (k := 11263) rfl (by omega)
  have t44 : (12271 : Int32) < c := own_gtT (k := 12271) rfl (by omega)
  have t45 : (12288 : Int32) < c := own_gtT (k := 12288) rfl (by omega)
  have t46 : (55295 : Int32) < c := own_gtT (k := 55295) rfl (by omega)
  have t47 : (63743 : Int32) < c := own_gtT (k := 63743) rfl (by omega)
  have t48 : (64975 : Int32) < c := own_gtT (k := 64975) rfl (by omega)
  have t49 : (65007 : Int32) < c := own_gtT (k := 65007) rfl (by omega)
  have t50 : ¬ ((65533 : Int32) < c) := own_gtF (k := 65533) rfl (by omega)
  have t51 : ¬ ((65535 : Int32) < c) := own_gtF (k := 65535) rfl (by omega)
  have t52 : ¬ ((983039 : Int32) < c) := own_gtF (k := 983039) rfl (by omega)
  simp only [own_f1_16, own_f1, own_f2_191, own_f2_195, own_f2_179, own_f2_167, own_f2_155, own_f2_142, own_f2_128, own_f2_114, own_f2_100, own_f2_86, own_f2_72, own_f2_58, own_f2_44, own_f2_24, own_f2_12, own_f2, own_f3_12, own_f3_65, own_f3_198, own_f3_184, own_f3_170, own_f3_156, own_f3_140, own_f3_124, own_f3_108, own_f3_83, own_f3_51, own_f3_28, own_f3, t0, t1, t2, t3, t4, t5, t6, t7, t8, t9, t10, t11, t12, t13, t14, t15, t16, t17, t18, t19, t20, t21, t22, t23, t24, t25, t26, t27, t28, t29, t30, t31, t32, t33, t34, t35, t36, t37, t38, t39, t40, t41, t42, t43, t44, t45, t46, t47, t48, t49, t50, t51, t52, own_10, own_01, ↓reduceIte]
theorem own_iv_28 (c : Int32) (h1 : 65534 ≤ c.toInt) (h2 : c.toInt ≤ 65535) : own_f1 c = 1 := by
  have t0 : ¬ (c < (65 : Int32)) := own_ltF (k := 65) rfl (by omega)
  have t1 : ¬ (c < (91 : Int32)) := own_ltF (k := 91) rfl (by omega)
  have t2 : ¬ (c < (97 : Int32)) := own_ltF (k := 97) rfl (by omega)
  have t3 : ¬ (c < (123 : Int32)) := own_ltF (k := 123) rfl (by omega)
  have t4 : ¬ (c < (192 : Int32)) := own_ltF (k := 192) rfl (by omega)
  have t5 : ¬ (c < (216 : Int32)) := own_ltF (k := 216) rfl (by omega)
  have t6 : ¬ (c < (248 : Int32)) := own_ltF (k := 248) rfl (by omega)
  have t7 : ¬ (c < (768 : Int32)) := own_ltF (k := 768) rfl (by omega)
  have t8 : ¬ (c < (880 : Int32)) := own_ltF (k := 880) rfl (by omega)
  have t9 : ¬ (c < (895 : Int32)) := own_ltF (k := 895) rfl (by omega)
  have t10 : ¬ (c < (8192 : Int32)) := own_ltF (k := 8192) rfl (by omega)
  have t11 : ¬ (c < (8204 : Int32)) := own_ltF (k := 8204) rfl (by omega)
  have t12 : ¬ (c < (8206 : Int32)) := own_ltF (k := 8206) rfl (by omega)
  have t13 : ¬ (c < (8304 : Int32)) := own_ltF (k := 8304) rfl (by omega)
  have t14 : ¬ (c < (8592 : Int32)) := own_ltF (k := 8592) rfl (by omega)
  have t15 : ¬ (c < (11264 : Int32)) := own_ltF (k := 11264) rfl (by omega)
  have t16 : ¬ (c < (12272 : Int32)) := own_ltF (k := 12272) rfl (by omega)
  have t17 : ¬ (c < (12289 : Int32)) := own_ltF (k := 12289) rfl (by omega)
  have t18 : ¬ (c < (55296 : Int32)) := own_ltF (k := 55296) rfl (by omega)
  have t19 : ¬ (c < (63744 : Int32)) := own_ltF (k := 63744) rfl (by omega)
  have t20 : ¬ (c < (64976 : Int32)) := own_ltF (k := 64976) rfl (by omega)
  have t21 : ¬ (c < (65008 : Int32)) := own_ltF (k := 65008) rfl (by omega)
  have t22 : ¬ (c < (65534 : Int32)) := own_ltF (k := 65534) rfl (by omega)
  have t23 : c < (65536 : Int32) := own_ltT (k := 65536) rfl (by omega)
  have t24 : ¬ (c = (95 : Int32)) := own_eqF (k := 95) rfl (by omega)
  have t25 : ¬ (c = (96 : Int32)) := own_eqF (k := 96) rfl (by omega)
  have t26 : ¬ (c = (215 : Int32)) := own_eqF (k := 215) rfl (by omega)
  have t27 : ¬ (c = (247 : Int32)) := own_eqF (k := 247) rfl (by omega)
  have t28 : ¬ (c = (894 : Int32)) := own_eqF (k := 894) rfl (by omega)
  have t29 : (90 : Int32) < c := own_gtT (k := 90) rfl (by omega)
  have t30 : (94 : Int32) < c := own_gtT (k := 94) rfl (by omega)
  have t31 : (122 : Int32) < c := own_gtT (k := 122) rfl (by omega)
  have t32 : (191 : Int32) < c := own_gtT (k := 191) rfl (by omega)
  have t33 : (214 : Int32) < c := own_gtT (k := 214) rfl (by omega)
  have t34 : (246 : Int32) < c := own_gtT (k := 246) rfl (by omega)
  have t35 : (767 : Int32) < c := own_gtT (k := 767) rfl (by omega)
  have t36 : (879 : Int32) < c := own_gtT (k := 879) rfl (by omega)
  have t37 : (893 : Int32) < c := own_gtT (k := 893) rfl (by omega)
  have t38 : (8191 : Int32) < c := own_gtT (k := 8191) rfl (by omega)
  have t39 : (8203 : Int32) < c := own_gtT (k := 8203) rfl (by omega)
  have t40 : (8205 : Int32) < c := own_gtT (k := 8205) rfl (by omega)
  have t41 : (8303 : Int32) < c := own_gtT (k := 8303) rfl (by omega)
  have t42 : (8591 : Int32) < c := own_gtT (k := 8591) rfl (by omega)
  have t43 : (11263 : Int32) < c := own_gtT (k := 11263) rfl (by omega)
  have t44 : (12271 : Int32) < c := own_gtT (k := 12271) rfl (by omega)
  have t45 : (12288 : Int32) < c := own_gtT (k := 12288) rfl (by omega)
  have t46 : (55295 : Int32) < c := own_gtT (k := 55295) rfl (by omega)
  have t47 : (63743 : Int32) < c := own_gtT (k := 63743) rfl (by omega)
  have t48 : (64975 : Int32) < c := own_gtT (k := 64975) rfl (by omega)
  have t49 : (65007 : Int32) < c := own_gtT (k := 65007) rfl (by omega)
  have t50 : (65533 : Int32) < c := own_gtT (k := 65533) rfl (by omega)
  have t51 : ¬ ((65535 : Int32) < c) := own_gtF (k := 65535) rfl (by omega)
  have t52 : ¬ ((983039 : Int32) < c) := own_gtF (k := 983039) rfl (by omega)
  simp only [own_f1_16, own_f1, own_f2_191, own_f2_195, own_f2_179, own_f2_167, own_f2_155, own_f2_142, own_f2_128, own_f2_114, own_f2_100, own_f2_86, own_f2_72, own_f2_58, own_f2_44, own_f2_24, own_f2_12, own_f2, own_f3_12, own_f3_65, own_f3_198, own_f3_184, own_f3_170, own_f3_156, own_f3_140, own_f3_124, own_f3_108, own_f3_83, own_f3_51, own_f3_28, own_f3, t0, t1, t2, t3, t4, t5, t6, t7, t8, t9, t10, t11, t12, t13, t14, t15, t16, t17, t18, t19, t20, t21, t22, t23, t24, t25, t26, t27, t28, t29, t30, t31, t32, t33, t34, t35, t36, t37, t38, t39, t40, t41, t42, t43, t44, t45, t46, t47, t48, t49, t50, t51, t52, own_10, own_01, ↓reduceIte]
theorem own_iv_29 (c : Int32) (h1 : 65536 ≤ c.toInt) (h2 : c.toInt ≤ 983039) : own_f1 c = 1 := by
  have t0 : ¬ (c < (65 : Int32)) := own_ltF (k := 65) rfl (by omega)
  have t1 : ¬ (c < (91 : Int32)) := own_ltF (k := 91) rfl (by omega)
  have t2 : ¬ (c < (97 : Int32)) := own_ltF (k := 97) rfl (by omega)
  have t3 : ¬ (c < (123 : Int32)) := own_ltF (k := 123) rfl (by omega)
  have t4 : ¬ (c < (192 : Int32)) := own_ltF (k := 192) rfl (by omega)
  have t5 : ¬ (c < (216 : Int32)) := own_ltF (k := 216) rfl (by omega)
  have t6 : ¬ (c < (248 : Int32)) := own_ltF (k := 248) rfl (by omega)
  have t7 : ¬ (c < (768 : Int32)) := own_ltF (k := 768) rfl (by omega)
  have t8 : ¬ (c < (880 : Int32)) := own_ltF (k := 880) rfl (by omega)
  have t9 : ¬ (c < (895 : Int32)) := own_ltF (k := 895) rfl (by omega)
  have t10 : ¬ (c < (8192 : Int32)) := own_ltF (k := 8192) rfl (by omega)
  have t11 : ¬ (c < (8204 : Int32)) := own_ltF (k := 8204) rfl (by omega)
  have t12 : ¬ (c < (8206 : Int32)) := own_ltF (k := 8206) rfl (by omega)
  have t13 : ¬ (c < (8304 : Int32)) := own_ltF (k := 8304) rfl (by omega)
  have t14 : ¬ (c < (8592 : Int32)) := own_ltF (k := 8592) rfl (by omega)
  have t15 : ¬ (c < (11264 : Int32)) := own_ltF (k := 11264) rfl (by omega)
  have t16 : ¬ (c < (12272 : Int32)) := own_ltF (k := 12272) rfl (by omega)
  have t17 : ¬ (c < (12289 : Int32)) := own_ltF (k := 12289) rfl (by omega)
  have t18 : ¬ (c < (55296 : Int32)) := own_ltF (k := 55296) rfl (by omega)
  have t19 : ¬ (c < (63744 : Int32)) := own_ltF (k := 63744) rfl (by omega)
  have t20 : ¬ (c < (64976 : Int32)) := own_ltF (k := 64976) rfl (by omega)
  have t21 : ¬ (c < (65008 : Int32)) := own_ltF (k := 65008) rfl (by omega)
  have t22 : ¬ (c < (65534 : Int32)) := own_ltF (k := 65534) rfl (by omega)
  have t23 : ¬ (c < (65536 : Int32)) := own_ltF (k := 65536) rfl (by omega)
  have t24 : ¬ (c = (95 : Int32)) := own_eqF (k := 95) rfl (by omega)
  have t25 : ¬ (c = (96 : Int32)) := own_eqF (k := 96) rfl (by omega)
  have t26 : ¬ (c = (215 : Int32)) := own_eqF (k := 215) rfl (by omega)
  have t27 : ¬ (c = (247 : Int32)) := own_eqF (k := 247) rfl (by omega)
  have t28 : ¬ (c = (894 : Int32)) := own_eqF (k := 894) rfl (by omega)
  have t29 : (90 : Int32) < c := own_gtT (k := 90) rfl (by omega)
  have t30 : (94 : Int32) < c := own_gtT (k := 94) rfl (by omega)
  have t31 : (122 : Int32) < c := own_gtT (k := 122) rfl (by omega)
  have t32 : (191 : Int32) < c := own_gtT (k := 191) rfl (by omega)
  have t33 : (214 : Int32) < c := own_gtT (k := 214) rfl (by omega)
  have t34 : (246 : Int32) < c := own_gtT (k := 246) rfl (by omega)
  have t35 : (767 : Int32) < c := own_gtT (k := 767) rfl (by omega)
  have t36 : (879 : Int32) < c := own_gtT (k := 879) rfl (by omega)
  have t37 : (893 : Int32) < c := own_gtT (k := 893) rfl (by omega)
  have t38 : (8191 : Int32) < c := own_gtT (k := 8191) rfl (by omega)
  have t39 : (8203 : Int32) < c := own_gtT (k := 8203) rfl (by omega)
  have t40 : (8205 : Int32) < c := own_gtT (k := 8205) rfl (by omega)
  have t41 : (8303 : Int32) < c := own_gtT (k := 8303) rfl (by omega)
  have t42 : (8591 : Int32) < c := own_gtT (k := 8591) rfl (by omega)
  have t43 : (11263 : Int32) < c := own_gtT (k := 11263) rfl (by omega)
  have t44 : (12271 : Int32) < c := own_gtT (k := 12271) rfl (by omega)
  have t45 : (12288 : Int32) < c := own_gtT (k := 12288) rfl (by omega)
  have t46 : (55295 : Int32) < c := own_gtT (k := 55295) rfl (by omega)
  have t47 : (63743 : Int32) < c := own_gtT (k := 63743) rfl (by omega)
  have t48 : (64975 : Int32) < c := own_gtT (k := 64975) rfl (by omega)
  have t49 : (65007 : Int32) < c := own_gtT (k := 65007) rfl (by omega)
  have t50 : (65533 : Int32) < c := own_gtT (k := 65533) rfl (by omega)
  have t51 : (65535 : Int32) < c := own_gtT (k := 65535) rfl (by omega)
  have t52 : ¬ ((983039 : Int32) < c) := own_gtF (k := 983039) rfl (by omega)
  simp only [own_f1_16, own_f1, own_f2_191, own_f2_195, own_f2_179, own_f2_167, own_f2_155, own_f2_142, own_f2_128, own_f2_114, own_f2_100, own_f2_86, own_f2_72, own_f2_58, own_f2_44, own_f2_24, own_f2_12, own_f2, own_f3_12, own_f3_65, own_f3_198, own_f3_184, own_f3_170, own_f3_156, own_f3_140, own_f3_124, own_f3_108, own_f3_83, own_f3_51, own_f3_28, own_f3, t0, t1, t2, t3, t4, t5, t6, t7, t8, t9, t10, t11, t12, t13, t14, t15, t16, t17, t18, t19, t20, t21, t22, t23, t24, t25, t26, t27, t28, t29, t30, t31, t32, t33, t34, t35, t36, t37, t38, t39, t40, t41, t42, t43, t44, t45, t46, t47, t48, t49, t50, t51, t52, own_10, own_01, ↓reduceIte]
theorem own_iv_30 (c : Int32) (h1 : 983040 ≤ c.toInt) : own_f1 c = 1 := by
  have t0 : ¬ (c < (65 : Int32)) := own_ltF (k := 65) rfl (by omega)
  have t1 : ¬ (c < (91 : Int32)) := own_ltF (k := 91) rfl (by omega)
  have t2 : ¬ (c < (97 : Int32)) := own_ltF (k := 97) rfl (by omega)
  have t3 : ¬ (c < (123 : Int32)) := own_ltF (k := 123) rfl (by omega)
  have t4 : ¬ (c < (192 : Int32)) := own_ltF (k := 192) rfl (by omega)
  have t5 : ¬ (c < (216 : Int32)) := own_ltF (k := 216) rfl (by omega)
  have t6 : ¬ (c < (248 : Int32)) := own_ltF (k := 248) rfl (by omega)
  have t7 : ¬ (c < (768 : Int32)) := own_ltF (k := 768) rfl (by omega)
  have t8 : ¬ (c < (880 : Int32)) := own_ltF (k := 880) rfl (by omega)
  have t9 : ¬ (c < (895 : Int32)) := own_ltF (k := 895) rfl (by omega)
  have t10 : ¬ (c < (8192 : Int32)) := own_ltF (k := 8192) rfl (by omega)
  have t11 : ¬ (c < (8204 : Int32)) := own_ltF (k := 8204) rfl (by omega)
  have t12 : ¬ (c < (8206 : Int32)) := own_ltF (k := 8206) rfl (by omega)
  have t13 : ¬ (c < (8304 : Int32)) := own_ltF (k := 8304) rfl (by omega)
  have t14 : ¬ (c < (8592 : Int32)) := own_ltF (k := 8592) rfl (by omega)
  have t15 : ¬ (c < (11264 : Int32)) := own_ltF (k := 11264) rfl (by omega)
  have t16 : ¬ (c < (12272 : Int32)) := own_ltF (k := 12272) rfl (by omega)
  have t17 : ¬ (c < (12289 : Int32)) := own_ltF (k := 12289) rfl (by omega)
  have t18 : ¬ (c < (55296 : Int32)) := own_ltF (k := 55296) rfl (by omega)
  have t19 : ¬ (c < (63744 : Int32)) := own_ltF (k := 63744) rfl (by omega)
  have t20 : ¬ (c < (64976 : Int32)) := own_ltF (k := 64976) rfl (by omega)
  have t21 : ¬ (c < (65008 : Int32)) := own_ltF (k := 65008) rfl (by omega)
  have t22 : ¬ (c < (65534 : Int32)) := own_ltF (k := 65534) rfl (by omega)
  have t23 : ¬ (c < (65536 : Int32)) := own_ltF (k := 65536) rfl (by omega)
  have t24 : ¬ (c = (95 : Int32)) := own_eqF (k := 95) rfl (by omega)
  have t25 : ¬ (c = (96 : Int32)) := own_eqF (k := 96) rfl (by omega)
  have t26 : ¬ (c = (215 : Int32)) := own_eqF (k := 215) rfl (by omega)
  have t27 : ¬ (c = (247 : Int32)) := own_eqF (k := 247) rfl (by omega)
  have t28 : ¬ (c = (894 : Int32)) := own_eqF (k := 894) rfl (by omega)
  have t29 : (90 : Int32) < c := own_gtT (k := 90) rfl (by omega)
  have t30 : (94 : Int32) < c := own_gtT (k := 94) rfl (by omega)
  have t31 : (122 : Int32) < c := own_gtT (k := 122) rfl (by omega)
  have t32 : (191 : Int32) < c := own_gtT (k := 191) rfl (by omega)
  have t33 : (214 : Int32) < c := own_gtT (k := 214) rfl (by omega)
  have t34 : (246 : Int32) < c := own_gtT (k := 246) rfl (by omega)
  have t35 : (767 : Int32) < c := own_gtT (k := 767) rfl (by omega)
  have t36 : (879 : Int32) < c := own_gtT (k := 879) rfl (by omega)
  have t37 : (893 : Int32) < c := own_gtT (k := 893) rfl (by omega)
  have t38 : (8191 : Int32) < c := own_gtT (k := 8191) rfl (by omega)
  have t39 : (8203 : Int32) < c := own_gtT (k := 8203) rfl (by omega)
  have t40 : (8205 : Int32) < c := own_gtT (k := 8205) rfl (by omega)
  have t41 : (8303 : Int32) < c := own_gtT (k := 8303) rfl (by omega)
  have t42 : (8591 : Int32) < c := own_gtT (k := 8591) rfl (by omega)
  have t43 : (11263 : Int32) < c := own_gtT (k := 11263) rfl (by omega)
  have t44 : (12271 : Int32) < c := own_gtT (k := 12271) rfl (by omega)
  have t45 : (12288 : Int32) < c := own_gtT (k := 12288) rfl (by omega)
  have t46 : (55295 : Int32) < c := own_gtT (k := 55295) rfl (by omega)
  have t47 : (63743 : Int32) < c := own_gtT (k := 63743) rfl (by omega)
  have t48 : (64975 : Int32) < c := own_gtT (k := 64975) rfl (by omega)
  have t49 : (65007 : Int32) < c := own_gtT (k := 65007) rfl (by omega)
  have t50 : (65533 : Int32) < c := own_gtT (k := 65533) rfl (by omega)
  have t51 : (65535 : Int32) < c := own_gtT (k := 65535) rfl (by omega)
  have t52 : (983039 : Int32) < c := own_gtT (k := 983039) rfl (by omega)
  simp only [own_f1_16, own_f1, own_f2_191, own_f2_195, own_f2_179, own_f2_167, own_f2_155, own_f2_142, own_f2_128, own_f2_114, own_f2_100, own_f2_86, own_f2_72, own_f2_58, own_f2_44, own_f2_24, own_f2_12, own_f2, own_f3_12, own_f3_65, own_f3_198, own_f3_184, own_f3_170, own_f3_156, own_f3_140, own_f3_124, own_f3_108, own_f3_83, own_f3_51, own_f3_28, own_f3, t0, t1, t2, t3, t4, t5, t6, t7, t8, t9, t10, t11, t12, t13, t14, t15, t16, t17, t18, t19, t20, t21, t22, t23, t24, t25, t26, t27, t28, t29, t30, t31, t32, t33, t34, t35, t36, t37, t38, t39, t40, t41, t42, t43, t44, t45, t46, t47, t48, t49, t50, t51, t52, own_10, own_01, ↓reduceIte]
theorem own_iv (c : Int32) : own_f1 c = 1 := by
  by_cases b0 : c.toInt ≤ 64
  · exact own_iv_0 c b0
  by_cases b1 : c.toInt ≤ 90
  · exact own_iv_1 c (by omega) b1
  by_cases b2 : c.toInt ≤ 94
  · exact own_iv_2 c (by omega) b2
  by_cases b3 : c.toInt ≤ 95
  · exact own_iv_3 c (by omega) b3
  by_cases b4 : c.toInt ≤ 96
  · exact own_iv_4 c (by omega) b4
  by_cases b5 : c.toInt ≤ 122
  · exact own_iv_5 c (by omega) b5
  by_cases b6 : c.toInt ≤ 191
  · exact own_iv_6 c (by omega) b6
  by_cases b7 : c.toInt ≤ 214
  · exact own_iv_7 c (by omega) b7
  by_cases b8 : c.toInt ≤ 215
  · exact own_iv_8 c (by omega) b8
  by_cases b9 : c.toInt ≤ 246
  · exact own_iv_9 c (by omega) b9
  by_cases b10 : c.toInt ≤ 247
  · exact own_iv_10 c (by omega) b10
  by_cases b11 : c.toInt ≤ 767
  · exact own_iv_11 c (by omega) b11
  by_cases b12 : c.toInt ≤ 879
  · exact own_iv_12 c (by omega) b12
  by_cases b13 : c.toInt ≤ 893
  · exact own_iv_13 c (by omega) b13
  by_cases b14 : c.toInt ≤ 894
  · exact own_iv_14 c (by omega) b14
  by_cases b15 : c.toInt ≤ 8191
  · exact own_iv_15 c (by omega) b15
  by_cases b16 : c.toInt ≤ 8203
  · exact own_iv_16 c (by omega) b16
  by_cases b17 : c.toInt ≤ 8205
  · exact own_iv_17 c (by omega) b17
  by_cases b18 : c.toInt ≤ 8303
  · exact own_iv_18 c (by omega) b18
  by_cases b19 : c.toInt ≤ 8591
  · exact own_iv_19 c (by omega) b19
  by_cases b20 : c.toInt ≤ 11263
  · exact own_iv_20 c (by omega) b20
  by_cases b21 : c.toInt ≤ 12271
  · exact own_iv_21 c (by omega) b21
  by_cases b22 : c.toInt ≤ 12288
  · exact own_iv_22 c (by omega) b22
  by_cases b23 : c.toInt ≤ 55295
  · exact own_iv_23 c (by omega) b23
  by_cases b24 : c.toInt ≤ 63743
  · exact own_iv_24 c (by omega) b24
  by_cases b25 : c.toInt ≤ 64975
  · exact own_iv_25 c (by omega) b25
  by_cases b26 : c.toInt ≤ 65007
  · exact own_iv_26 c (by omega) b26
  by_cases b27 : c.toInt ≤ 65533
  · exact own_iv_27 c (by omega) b27
  by_cases b28 : c.toInt ≤ 65535
  · exact own_iv_28 c (by omega) b28
  by_cases b29 : c.toInt ≤ 983039
  · exact own_iv_29 c (by omega) b29
  exact own_iv_30 c (by omega)
theorem own_law (p0 : Int32) (p1 : Int32) : own_f0 p0 p1 = 1 := by
  unfold own_f0
  simp only [own_iv, own_10, ↓reduceIte]
set_option maxRecDepth 65536 in
set_option maxHeartbeats 40000000 in
theorem comes_1 {Post : Tables → Env → Array Value → State → Outcome → State → Prop} (hpost : ∀ tb e args s v u, (limb_1_1.after args s (.returned v) u = true ∧ limb_1_2.after args s (.returned v) u = true ∧ True) → FrameEnd s (.returned v) u (Jvm.fieldLocs frame_1_writes args s ++ Jvm.arrayLocs frame_1_arrays args s ++ Jvm.staticLocs frame_1_statics s) 16 128 → Post tb e args s (.returned v) u) :
    ArmFor flags0 classFile x code maxLocals ret World_1 tables_1 room_1 Calls_1 rest_1 Pre_1 Post := by
  intro l hfl _ _ p e ha hc hk s m args below hf hA hF happ hP
  obtain ⟨hcalls, hrest, hpre⟩ := hP
  obtain ⟨-, -, -, hnamed, -, -, -, hat⟩ := (Spec.applies_iff hf).mp happ
  obtain ⟨hg, hn⟩ := and_e (Cond.before_iff.mp (show (Jvm.Cond.and given_1 narrow_1).before args s = true from hpre))
  obtain ⟨g1, g2⟩ := and_e hg
  obtain ⟨g3, g4⟩ := and_e g2
  obtain ⟨w0, w1, rfl⟩ : ∃ w0 w1 : Value, args = #[w0, w1] := by
    have hs : args.size = 2 := by simpa [Cond.value, given_1] using g1
    obtain ⟨L⟩ := args
    match L, hs with
    | [w0, w1], _ => exact ⟨w0, w1, rfl⟩
  have hw := fun d (hd : d ∈ tables_1) => atoms_spec (ws := Jvm.Cond.code x code maxLocals ret :: tables_1) hat d (List.mem_cons_of_mem _ hd)
  obtain ⟨i0, ei0⟩ := is_v g3
  obtain rfl : w0 = (.int i0) := Option.some.inj ei0
  obtain ⟨i1, ei1⟩ := is_v g4
  obtain rfl : w1 = (.int i1) := Option.some.inj ei1
  have hrm := rm0 l s _ hw tables_1 i0 i1 s.heap s.heap.size (Nat.le_refl _)
  rw [own_law i0 i1] at hrm
  obtain ⟨n, o, h1, h2, h3, _, L, rfl, ⟨rfl, N⟩, hq⟩ := hrm p e ha hc hk s m _ below hf ((Spec.applies_iff_loose hf).mp happ).1 ⟨rfl, State.Warmed39.refl s, rfl⟩ trivial
  refine ⟨n, _, h1, h2, h3, hpost _ _ _ _ _ _ ⟨Cond.after_iff.mpr rfl, Cond.after_iff.mpr (eq_i res_at (Term.int_eval (1)) rfl), trivial⟩ ⟨hq.1, hq.2.1, (hq.2.2.sift fun y hy => Or.inr (N y hy)).mono (by decide) (by decide)⟩⟩
theorem main_1_1 : Claimed_1_1 := comes_1 fun _ _ _ _ _ _ h hF => ⟨h.1, hF⟩
theorem main_1_2 : Claimed_1_2 := comes_1 fun _ _ _ _ _ _ h hF => ⟨h.2.1, hF⟩
end Jvm.Pilot.@@N@@
namespace Jvm.Pilot.@@N@@
open Jvm Jvm.ClassFile Sem Op Lib Jvm.Free Jvm.Stand Jvm.Pilot.@@N@@.Jvm.D
/-! MADE BY PROGRAM (witnessworld.py) out of the Statement's table words and the real class files: 9 classes; the members and pool entries that the words name. The judged class is class 1, her method 3. -/
namespace start1
open Jvm.ClassFile
def u (s : String) : CpInfo := .utf8 (stringToUtf16 s)
/-- a pool by its gaps: so many unusable entries, then the entry; so many at the end -/
def gap : Nat → List CpInfo → List CpInfo
  | 0, r => r
  | n + 1, r => .unusable :: gap n r
def poolList (es : List (Nat × CpInfo)) (last : Nat) : List CpInfo := es.foldr (fun e r => gap e.1 (e.2 :: r)) (gap last [])
def pool (es : List (Nat × CpInfo)) (last : Nat) : Array CpInfo := ⟨poolList es last⟩
def fileOf (pool : Array CpInfo) (this : Nat) (attrs : Array Attribute := #[]) (ms : Array MethodInfo := #[]) (fl : Nat := 33) (sup : Nat := 0) (ifs : Array Nat := #[]) (fds : Array FieldInfo := #[]) : ClassFile where
  minorVersion := 0
  majorVersion := 65
  constantPool := pool
  accessFlags := fl
  thisClass := this
  superClass := sup
  interfaces := ifs
  fields := fds
  methods := ms
  attributes := attrs
def plain (name : String) (sup : Option ClassId) : Class where
  name := name
  kind := .ordinary
  loader := none
  accessFlags := 33
  super := sup
  interfaces := #[]
  cf := none
  fields := #[]
  methods := #[]
  instanceTypes := #[]
  staticTypes := #[]
  resolved := #[]
  callSites := []
  init := .initialized
  statics := none
  mirror := none

def pool0 : Array CpInfo := pool [(5, u "<init>"), (0, u "()V"), (1, .class_ 10), (1, u "java/lang/Object")] 113

def k0m0 : Method := { name := "<init>", desc := "()V", sig := { parameters := [], returnType := none }, accessFlags := 1, code := none }
/-- java/lang/Object -/
def k0 : Class := { plain "java/lang/Object" none with
  accessFlags := 33
  interfaces := #[]
  cf := some (fileOf pool0 8 #[] #[{ accessFlags := 1, nameIndex := 5, descriptorIndex := 6, attributes := #[] }] 33 0 #[] #[])
  fields := #[]
  methods := #[k0m0]
  instanceTypes := #[]
  staticTypes := #[]
  resolved := Array.replicate 124 none
  statics := none }

def pool1 : Array CpInfo := pool [(2, .class_ 4), (1, u "java/lang/Object"), (0, u "<init>"), (0, u "()V"), (0, .integer 983039), (0, .integer 55296), (0, .integer 63743), (0, .integer 64976), (0, .integer 65007), (0, .integer 65534), (0, .integer 65535), (0, .methodref 15 16), (0, .class_ 17), (0, .nameAndType 18 19), (0, u "com/example/unnest/unnest/xml/XmlChars"), (0, u "isNameStart"), (0, u "(I)Z"), (0, .methodref 21 22), (0, .class_ 23), (0, .nameAndType 24 19), (0, u "com/example/unnest/unnest/xml/XmlCharsIsNameStartPinLaw"), (0, u "notNameStart"), (0, .integer 55295), (0, .integer 63744), (0, .integer 64975), (0, .integer 65008), (0, .integer 65533), (0, .integer 65536), (2, .integer 2147483649), (0, .integer 2147483646), (0, .methodref 21 36), (0, .nameAndType 37 19), (0, u "agrees"), (0, .integer 131071), (3, u "law"), (0, u "(II)Z")] 4

def k1m0 : Method := { name := "<init>", desc := "()V", sig := { parameters := [], returnType := none }, accessFlags := 2, code := none }
def k1c1 : Code := { maxStack := 2, maxLocals := 1, code := method_2_code, exceptionTable := #[], attributes := #[] }
def k1m1 : Method := { name := "notNameStart", desc := "(I)Z", sig := { parameters := [.int], returnType := some .boolean }, accessFlags := 10, code := some k1c1 }
def k1c2 : Code := { maxStack := 2, maxLocals := 1, code := method_3_code, exceptionTable := #[], attributes := #[] }
def k1m2 : Method := { name := "agrees", desc := "(I)Z", sig := { parameters := [.int], returnType := some .boolean }, accessFlags := 10, code := some k1c2 }
def k1c3 : Code := { maxStack := 4, maxLocals := 6, code := code, exceptionTable := #[], attributes := #[] }
def k1m3 : Method := { name := "law", desc := "(II)Z", sig := { parameters := [.int, .int], returnType := some .boolean }, accessFlags := 9, code := some k1c3 }
/-- com/example/unnest/unnest/xml/XmlCharsIsNameStartPinLaw -/
def k1 : Class := { plain "com/example/unnest/unnest/xml/XmlCharsIsNameStartPinLaw" (some 0) with
  accessFlags := 49
  interfaces := #[]
  cf := some (fileOf pool1 21 #[] #[{ accessFlags := 2, nameIndex := 5, descriptorIndex := 6, attributes := #[] }, { accessFlags := 10, nameIndex := 24, descriptorIndex := 19, attributes := #[] }, { accessFlags := 10, nameIndex := 37, descriptorIndex := 19, attributes := #[] }, { accessFlags := 9, nameIndex := 42, descriptorIndex := 43, attributes := #[] }] 49 2 #[] #[])
  fields := #[]
  methods := #[k1m0, k1m1, k1m2, k1m3]
  instanceTypes := #[]
  staticTypes := #[]
  resolved := Array.replicate 48 none
  statics := none }

def pool2 : Array CpInfo := pool [(2, .class_ 4), (1, u "java/lang/Object"), (0, u "<init>"), (0, u "()V"), (0, .integer 55295), (0, .integer 63744), (0, .integer 64975), (0, .integer 65008), (0, .integer 65533), (0, .integer 65536), (0, .integer 983039), (1, .class_ 17), (1, u "com/example/unnest/unnest/xml/XmlChars"), (0, u "isNameStart"), (0, u "(I)Z")] 74

def k2m0 : Method := { name := "<init>", desc := "()V", sig := { parameters := [], returnType := none }, accessFlags := 2, code := none }
def k2c1 : Code := { maxStack := 2, maxLocals := 1, code := prog_142_method_2_code, exceptionTable := #[], attributes := #[] }
def k2m1 : Method := { name := "isNameStart", desc := "(I)Z", sig := { parameters := [.int], returnType := some .boolean }, accessFlags := 9, code := some k2c1 }
/-- com/example/unnest/unnest/xml/XmlChars -/
def k2 : Class := { plain "com/example/unnest/unnest/xml/XmlChars" (some 0) with
  accessFlags := 49
  interfaces := #[]
  cf := some (fileOf pool2 15 #[] #[{ accessFlags := 2, nameIndex := 5, descriptorIndex := 6, attributes := #[] }, { accessFlags := 9, nameIndex := 18, descriptorIndex := 19, attributes := #[] }] 49 2 #[] #[])
  fields := #[]
  methods := #[k2m0, k2m1]
  instanceTypes := #[]
  staticTypes := #[]
  resolved := Array.replicate 94 none
  statics := none }

def pool3 : Array CpInfo := pool [(1, u "java/lang/Cloneable"), (0, .class_ 1), (0, u "java/lang/Object"), (0, .class_ 3)] 3

/-- java/lang/Cloneable -/
def k3 : Class := { plain "java/lang/Cloneable" (some 0) with
  accessFlags := 1537
  interfaces := #[]
  cf := some (fileOf pool3 2 #[] #[] 1537 4 #[] #[])
  fields := #[]
  methods := #[]
  instanceTypes := #[]
  staticTypes := #[]
  resolved := Array.replicate 8 none
  statics := none }

def pool4 : Array CpInfo := pool [(1, u "java/io/Serializable"), (0, .class_ 1), (0, u "java/lang/Object"), (0, .class_ 3)] 3

/-- java/io/Serializable -/
def k4 : Class := { plain "java/io/Serializable" (some 0) with
  accessFlags := 1537
  interfaces := #[]
  cf := some (fileOf pool4 2 #[] #[] 1537 4 #[] #[])
  fields := #[]
  methods := #[]
  instanceTypes := #[]
  staticTypes := #[]
  resolved := Array.replicate 8 none
  statics := none }

/-- the primitive byte -/
def k5 : Class := { plain "byte" none with kind := .primitive 'B', accessFlags := 0x411 }
/-- [B -/
def k6 : Class := { plain "[B" (some 0) with kind := .array 5 .byte, interfaces := #[3, 4], accessFlags := 1041 }

/-- the primitive int -/
def k7 : Class := { plain "int" none with kind := .primitive 'I', accessFlags := 0x411 }
/-- [I -/
def k8 : Class := { plain "[I" (some 0) with kind := .array 7 .int, interfaces := #[3, 4], accessFlags := 1041 }

def heap : Heap := #[]
def classes : Array Class := #[k0, k1, k2, k3, k4, k5, k6, k7, k8]
def interned : List (Array UInt16 × Addr) := []
def slotsUsed : Nat := 0
def theMethod : MethodId := ⟨1, 3⟩
def args0 : Array Value := #[.int 1, .int 2]
def aboutOver (below : List Frame) : State where
  vm := { classes := classes, interned := interned.toArray }
  heap := heap
  slotsUsed := slotsUsed
  threads := #[{ frames := .invoking theMethod args0 :: below }]
def below0 : List Frame := [.native { method := ⟨0, 0⟩, args := #[] }]
def about1 : State := aboutOver below0
def p0 : Program := .bare "" "" ""
def e0 : Env := launch0.env 0 0 0
theorem w_frames : about1.frames = Frame.invoking theMethod args0 :: below0 := rfl
set_option maxRecDepth 65536 in
theorem w_args : argsFit about1.vm theMethod args0 = true := by decide +kernel
set_option maxRecDepth 65536 in
theorem w_heap : heapFits about1 = true := by decide +kernel
set_option maxRecDepth 65536 in
theorem w_runnable : about1.curStatus? = some .runnable := by decide +kernel
set_option maxRecDepth 65536 in
theorem w_alone : about1.alone = true := by decide +kernel
set_option maxRecDepth 65536 in
theorem w_named : about1.methodNamed? x = some theMethod := by decide +kernel
set_option maxRecDepth 65536 in
theorem w_hears : about1.hears theMethod below0 = true := by decide +kernel
set_option maxRecDepth 65536 in
theorem w_ripe : about1.ripe theMethod args0 below0 = true := by decide +kernel
theorem w_running : about1.status = .running := rfl
set_option maxRecDepth 65536 in
theorem w_room : about1.hasRoom e0.platform room_1 = true :=
  launch0.hasRoom_least _ room_1 (by decide +kernel) (by decide +kernel) (by decide +kernel) (by decide +kernel) (by decide +kernel) (by decide +kernel)
theorem allAtoms_all (ts : List Jvm.Cond) (a : Array Jvm.Value) (st : Jvm.State) : (allAtoms ts).before a st = ts.all (fun c => c.before a st) := by
  induction ts with
  | nil => rfl
  | cons c t ih =>
    show (Jvm.Cond.and c (allAtoms t)).before a st = _
    rw [Jvm.Cond.before_and, ih, List.all_cons]
def words1 : List Jvm.Cond := Jvm.Cond.code x code maxLocals ret :: tables_1
/-- a 'code' word, met by the world's own term for the bytes: nothing is compared byte by byte -/
theorem code_word {y : MethodName} {bytes : ByteArray} {mx : Nat} {rt : Option FieldType} {a : Array Value} {s : State} {m : MethodId} {meth : Method} {c : Code} (h1 : s.methodNamed? y = some m) (h2 : s.vm.method? m = some meth) (h3 : meth.code = some c) (h4 : c.code = bytes)
    (h5 : (c.maxLocals == mx && c.exceptionTable.isEmpty && decide (c.maxStack ≤ mostOperands) && decide (meth.sig.returnType = rt) && !meth.locks && decide (parseMethodDescriptor y.desc = some meth.sig)) = true) : (Jvm.Cond.code y bytes mx rt).before a s = true := by
  simp only [Bool.and_eq_true, beq_iff_eq, Bool.not_eq_true', decide_eq_true_eq] at h5
  obtain ⟨⟨⟨⟨⟨g1, g2⟩, g3⟩, g4⟩, g5⟩, g6⟩ := h5
  simp [Cond.before, Cond.holds, Cond.value, h1, h2, h3, h4, g1, g2, g3, g4, g5, g6]
def isCode : Jvm.Cond → Bool
  | .code _ _ _ _ => true
  | _ => false
theorem all_split {L : List Jvm.Cond} {P : Jvm.Cond → Bool} (h1 : L.all (fun c => isCode c || P c) = true) (h2 : ∀ c ∈ L.filter isCode, P c = true) : L.all P = true := by
  refine List.all_eq_true.mpr fun c hc => ?_
  have h := List.all_eq_true.mp h1 c hc
  rcases Bool.eq_false_or_eq_true (isCode c) with hi | hi
  · exact h2 c (List.mem_filter.mpr ⟨hc, hi⟩)
  · simpa [hi] using h
set_option maxRecDepth 65536 in
theorem w_c0 : (Jvm.Cond.code x code maxLocals ret).before args0 about1 = true := code_word (m := ⟨1, 3⟩) (meth := k1m3) (c := k1c3) (by decide +kernel) rfl rfl rfl (by decide +kernel)
set_option maxRecDepth 65536 in
theorem w_c1 : (Jvm.Cond.code ({ cls := "com/example/unnest/unnest/xml/XmlCharsIsNameStartPinLaw", name := "agrees", desc := "(I)Z" } : Jvm.MethodName) method_3_code (1 : Nat) (Option.some Jvm.ClassFile.FieldType.boolean)).before args0 about1 = true := code_word (m := ⟨1, 2⟩) (meth := k1m2) (c := k1c2) (by decide +kernel) rfl rfl rfl (by decide +kernel)
set_option maxRecDepth 65536 in
theorem w_c2 : (Jvm.Cond.code ({ cls := "com/example/unnest/unnest/xml/XmlChars", name := "isNameStart", desc := "(I)Z" } : Jvm.MethodName) prog_142_method_2_code (1 : Nat) (Option.some Jvm.ClassFile.FieldType.boolean)).before args0 about1 = true := code_word (m := ⟨2, 1⟩) (meth := k2m1) (c := k2c1) (by decide +kernel) rfl rfl rfl (by decide +kernel)
set_option maxRecDepth 65536 in
theorem w_c3 : (Jvm.Cond.code ({ cls := "com/example/unnest/unnest/xml/XmlCharsIsNameStartPinLaw", name := "notNameStart", desc := "(I)Z" } : Jvm.MethodName) method_2_code (1 : Nat) (Option.some Jvm.ClassFile.FieldType.boolean)).before args0 about1 = true := code_word (m := ⟨1, 1⟩) (meth := k1m1) (c := k1c1) (by decide +kernel) rfl rfl rfl (by decide +kernel)
def codes1 : List Jvm.Cond := [Jvm.Cond.code x code maxLocals ret, Jvm.Cond.code ({ cls := "com/example/unnest/unnest/xml/XmlCharsIsNameStartPinLaw", name := "agrees", desc := "(I)Z" } : Jvm.MethodName) method_3_code (1 : Nat) (Option.some Jvm.ClassFile.FieldType.boolean), Jvm.Cond.code ({ cls := "com/example/unnest/unnest/xml/XmlChars", name := "isNameStart", desc := "(I)Z" } : Jvm.MethodName) prog_142_method_2_code (1 : Nat) (Option.some Jvm.ClassFile.FieldType.boolean), Jvm.Cond.code ({ cls := "com/example/unnest/unnest/xml/XmlCharsIsNameStartPinLaw", name := "notNameStart", desc := "(I)Z" } : Jvm.MethodName) method_2_code (1 : Nat) (Option.some Jvm.ClassFile.FieldType.boolean)]
set_option maxRecDepth 65536 in
theorem codes_eq : words1.filter isCode = codes1 := rfl
theorem w_codes : ∀ c ∈ words1.filter isCode, c.before args0 about1 = true := by
  rw [codes_eq]
  intro c hc
  simp only [codes1, List.mem_cons, List.not_mem_nil, or_false] at hc
  rcases hc with rfl | rfl | rfl | rfl
  · exact w_c0
  · exact w_c1
  · exact w_c2
  · exact w_c3
set_option maxRecDepth 65536 in
theorem w_t1 : (words1.take 24).all (fun c => isCode c || c.before args0 about1) = true := by decide +kernel
set_option maxRecDepth 65536 in
theorem w_t2 : (words1.drop 24).all (fun c => isCode c || c.before args0 about1) = true := by decide +kernel
theorem w_tables : (allAtoms (Jvm.Cond.code x code maxLocals ret :: tables_1)).before args0 about1 = true := by
  rw [allAtoms_all]
  show words1.all (fun c => c.before args0 about1) = true
  refine all_split ?_ w_codes
  rw [← List.take_append_drop 24 words1, List.all_append, w_t1, w_t2]
  rfl
set_option maxRecDepth 65536 in
theorem w_case : (Jvm.Cond.and given_1 narrow_1).before args0 about1 = true := by decide +kernel
theorem w_applies : (headSpec (Jvm.Cond.code x code maxLocals ret :: tables_1) room_1).applies x e0.platform about1 = true :=
  (Spec.applies_iff w_frames).mpr ⟨w_running, w_runnable, w_alone, w_named, w_hears, w_ripe, w_room, w_tables⟩
theorem atStart : AtStart classFile x code maxLocals ret World_1 tables_1 room_1 Calls_1 rest_1 Pre_1 launch0 p0 e0 about1 theMethod args0 below0 :=
  ⟨lists_1, trivial, launch0.admits_env _ _ _, launch0.least_env, fairChoices_fair.cas, fairChoices_fair.clock, w_frames, w_args, w_heap, w_applies, trivial, trivial, w_case⟩
end start1
theorem witness_1 : WitnessClaimed_1 := ⟨start1.p0, start1.e0, start1.about1, start1.theMethod, start1.args0, start1.below0, start1.atStart⟩
end Jvm.Pilot.@@N@@
