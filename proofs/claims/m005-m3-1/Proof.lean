import JvmDerived
import JvmDerived.Pilot.@@N@@Statement
import JvmDerived.Pilot.@@N@@Code
set_option linter.unusedVariables false
set_option linter.unusedSimpArgs false
namespace Jvm.RoadKit
open Sem ClassFile Op Lib Jvm.Stand Jvm.Free Jvm.LawKit
section New
variable {p : Program} {l : Launch} {e : Env} {R : Room} {s : State} {m : MethodId} {args : Array Value} {below : List Frame} {meth : Method} {c : Code} {T : State} {locs : List Loc} {cells slots : Nat}
theorem retI (X : Stand p l e R s m args below meth c T locs cells slots) (hx : p.tables.exec = Jvm.exec) {pc : Nat} {Ls : Array Slot} {z : Int32} {rest : List Value} (hret : meth.sig.returnType = some .int) (hd : decode c.code pc = .ok (.ireturn, 1)) {fs : List Frame}
    (hl : ∀ (f : JFrame) (acts : List Action), f.method = m → f.locked = none → f.entered = [] → (doReturn e (T.setTop f) acts (some (.int z))).1 = T.setFrames fs) : Steps p.tables e below (T.setTop (mkF m pc Ls (.int z :: rest))) (T.setFrames fs) := by
  have hm' : T.vm.method? m = some meth := X.method'
  have hn : narrow .int (.int z) = .int z := rfl
  show Steps p.tables e below (T.setTop { method := m, pc := pc, locals := Ls, stack := _ :: rest, locked := none }) _
  jvm_step X.here [X.here.top, hx, hd, hm', hret, hn]
  first | (intro acts; rw [hl _ acts rfl rfl rfl]) | rw [hl _ _ rfl rfl rfl]
  exact Steps.refl _
end New
end Jvm.RoadKit
namespace Jvm.Pilot.@@N@@
open Jvm Jvm.ClassFile Sem Op Lib Jvm.Free Jvm.Stand Jvm.LawKit Jvm.RoadKit Bundle Jvm.Pilot.@@N@@.Jvm.D
section Own
variable {p : Program} {l : Launch} {e : Env} {R : Room} {s : State} {m : MethodId} {args : Array Value} {below : List Frame} {meth : Method} {c : Code} {T : State} {locs : List Loc} {cells slots : Nat}
/-- the run goes on from S to its end, and P holds there -/
def own_Goes (tb : Tables) (e : Env) (below : List Frame) (S : State) (P : State → Outcome → Prop) : Prop :=
  ∃ s₂ o, Steps tb e below S s₂ ∧ s₂.status = .running ∧ Ended s₂ below o ∧ P s₂ o
theorem own_step {tb : Tables} {S S' : State} {P : State → Outcome → Prop} (h : ∀ t, Steps tb e below S' t → Steps tb e below S t) (k : own_Goes tb e below S' P) : own_Goes tb e below S P := by
  obtain ⟨s₂, o, h1, h2⟩ := k
  exact ⟨s₂, o, h _ h1, h2⟩
theorem own_enter {tb : Tables} {g g' : JFrame} {P : State → Outcome → Prop} (q : g = g') (k : own_Goes tb e below (T.setTop g') P) : own_Goes tb e below (T.setTop g) P := q ▸ k
def own_P (s : State) (Q : Option Value → Heap → List Loc → Prop) (C K : Nat) : State → Outcome → Prop := fun U o => ∃ v L, o = .returned v ∧ Q v U.heap L ∧ FrameEnd s o U L C K
/-- a body that writes nothing -/
def own_Qp (w : Option Value) (h0 : Heap) (v : Option Value) (h : Heap) (L : List Loc) : Prop := v = w ∧ L = [] ∧ h = h0
/-- a body that makes cells and writes none that stood before -/
def own_Qa (w : Option Value) (h0 : Heap) (n0 : Nat) (v : Option Value) (h : Heap) (L : List Loc) : Prop := v = w ∧ Fr n0 L ∧ Keep h0 h []
/-- the law -/
def own_Ql (w : Option Value) (n0 : Nat) (v : Option Value) (h : Heap) (L : List Loc) : Prop := v = w ∧ Fr n0 L
variable {Q : Option Value → Heap → List Loc → Prop} {C K : Nat}
theorem own_retI (X : Stand p l e R s m args below meth c T locs cells slots) (hx : p.tables.exec = Jvm.exec) {pc : Nat} {Ls : Array Slot} {z : Int32} {rest : List Value} (hret : meth.sig.returnType = some .int) (hd : decode c.code pc = .ok (.ireturn, 1)) (hk : meth.locks = false)
    (hQ : Q (some (.int z)) T.heap locs) (hc : cells ≤ C) (hs : slots ≤ K) : own_Goes p.tables e below (T.setTop (mkF m pc Ls (.int z :: rest))) (own_P s Q C K) := by
  obtain ⟨fs, hr, hrun, hended, hW, hsame⟩ := X.leave (v := some (.int z)) (fun h => by rw [hret] at h; cases h) hk
  exact ⟨_, _, retI X hx hret hd hr, hrun, hended, _, _, rfl, hQ, ⟨_, rfl⟩, hW, hsame.mono hc hs⟩
theorem own_retN (X : Stand p l e R s m args below meth c T locs cells slots) (hx : p.tables.exec = Jvm.exec) {pc : Nat} {Ls : Array Slot} {z : Int32} {t : FieldType} {rest : List Value} (hret : meth.sig.returnType = some t) (ht : t = .boolean ∨ t = .byte ∨ t = .char ∨ t = .short) (hd : decode c.code pc = .ok (.ireturn, 1)) (hk : meth.locks = false)
    {w : Int32} (hw : nar t z = w) (hQ : Q (some (.int w)) T.heap locs) (hc : cells ≤ C) (hs : slots ≤ K) : own_Goes p.tables e below (T.setTop (mkF m pc Ls (.int z :: rest))) (own_P s Q C K) := by
  subst hw
  obtain ⟨fs, hr, hrun, hended, hW, hsame⟩ := X.leave (v := some (.int (nar t z))) (fun h => by rw [hret] at h; cases h) hk
  exact ⟨_, _, retN X hx hret ht hd hr, hrun, hended, _, _, rfl, hQ, ⟨_, rfl⟩, hW, hsame.mono hc hs⟩
theorem own_retJ (X : Stand p l e R s m args below meth c T locs cells slots) (hx : p.tables.exec = Jvm.exec) {pc : Nat} {Ls : Array Slot} {z : Int64} (hret : meth.sig.returnType = some .long) (hd : decode c.code pc = .ok (.lreturn, 1)) (hk : meth.locks = false)
    (hQ : Q (some (.long z)) T.heap locs) (hc : cells ≤ C) (hs : slots ≤ K) : own_Goes p.tables e below (T.setTop (mkF m pc Ls [.long z])) (own_P s Q C K) := by
  obtain ⟨fs, hr, hrun, hended, hW, hsame⟩ := X.leave (v := some (.long z)) (fun h => by rw [hret] at h; cases h) hk
  exact ⟨_, _, X.lreturnOut hx hret hd hr, hrun, hended, _, _, rfl, hQ, ⟨_, rfl⟩, hW, hsame.mono hc hs⟩
theorem own_retV (X : Stand p l e R s m args below meth c T locs cells slots) (hx : p.tables.exec = Jvm.exec) {pc : Nat} {Ls : Array Slot} (hret : meth.sig.returnType = none) (hd : decode c.code pc = .ok (.return_, 1)) (hk : meth.locks = false)
    (hQ : Q none T.heap locs) (hc : cells ≤ C) (hs : slots ≤ K) : own_Goes p.tables e below (T.setTop (mkF m pc Ls [])) (own_P s Q C K) := by
  obtain ⟨fs, hr, hrun, hended, hW, hsame⟩ := X.leave (v := none) (fun _ => rfl) hk
  exact ⟨_, _, X.returnOut hx hret hd hr, hrun, hended, _, _, rfl, hQ, ⟨_, rfl⟩, hW, hsame.mono hc hs⟩
theorem own_retA (X : Stand p l e R s m args below meth c T locs cells slots) (hx : p.tables.exec = Jvm.exec) {pc : Nat} {Ls : Array Slot} {z : Addr} {t : FieldType} {rest : List Value} (hret : meth.sig.returnType = some t) (hd : decode c.code pc = .ok (.areturn, 1)) (hk : meth.locks = false)
    (ht : t.isReference = true) (hn : narrow t (.ref z) = .ref z) (hQ : Q (some (.ref z)) T.heap locs) (hc : cells ≤ C) (hs : slots ≤ K) : own_Goes p.tables e below (T.setTop (mkF m pc Ls (.ref z :: rest))) (own_P s Q C K) := by
  obtain ⟨fs, hr, hrun, hended, hW, hsame⟩ := X.leave (v := some (.ref z)) (fun h => by rw [hret] at h; cases h) hk
  exact ⟨_, _, retOut X hx hret hn (Or.inr (Or.inr (Or.inr (Or.inr ⟨rfl, ht, rfl⟩)))) hd hr, hrun, hended, _, _, rfl, hQ, ⟨_, rfl⟩, hW, hsame.mono hc hs⟩
theorem own_flat (X : Stand p l e R s m args below meth c T (locs ++ []) (cells + 0) (slots + 0)) : Stand p l e R s m args below meth c T locs cells slots := List.append_nil locs ▸ X
end Own
section OwnUp
/-- the link of a method that a superinterface declares, by the word alone -/
theorem own_linksUp {s : State} {args : Array Value} {cls : String} {x : MethodName} {index d c : Nat} {ck ok : Class} {meth : Method} {mf : MethodId}
    (hd : s.vm.findClass cls = some d) (hc : s.vm.findClass x.cls = some c) (hck : s.vm.classes[c]? = some ck) (hvi : ck.isInterface = true) (hnc : x.name ≠ "clone") (hnone : ck.findMethod x.name x.desc = none)
    (hf : s.methodFound? x.cls x.name x.desc = some mf) (hok : s.vm.classes[mf.cls]? = some ok) (hm : ok.methods[mf.idx]? = some meth) (hx : x.cls ≠ "java/lang/invoke/MethodHandle" ∧ x.cls ≠ "java/lang/invoke/VarHandle")
    (h : (Cond.methodLink cls index x).before args s = true) (pl : Platform) (hpl : pl.magicAccessors = ({} : Platform).magicAccessors) :
    ∃ ci, s.vm.MethodLinksFF pl d index ci c mf ∧ s.rightAt d index (.method mf) = true := by
  obtain ⟨k₀, hk₀, hname⟩ := Vm.findClass_spec hc
  cases hck.symm.trans hk₀
  have hpoly : ∀ y, signaturePolymorphic ck y = false := fun y => by simp [signaturePolymorphic, hname, hx.1, hx.2]
  have hmeth : s.vm.method? mf = some meth := by simp [Vm.method?, hok, hm]
  simp only [Cond.before, Cond.holds, Cond.value, hd, hc, hf] at h
  rcases hme : s.memberEntry? cls index with _ | ⟨ci, via⟩
  · simp [hme] at h
  rcases hcl : s.classLinks cls ci x.cls with _ | linked
  · simp [hme, hcl] at h
  rcases hdk : s.vm.classes[d]? with _ | dk
  · simp [hme, hcl, hdk] at h
  simp only [hme, hcl, hdk, hck, hok, hmeth, Option.bind_eq_bind, Option.bind_some, Option.pure_def, beq_iff_eq, Option.some.injEq, Bool.and_eq_true, Option.isNone_iff_eq_none] at h
  obtain ⟨⟨⟨⟨⟨⟨⟨hlk, hnm⟩, hopen⟩, hvia⟩, -⟩, -⟩, hml⟩, hacc⟩ := h
  subst hlk
  have hplain : s.vm.Plain meth.accessFlags mf.cls ok c d dk := by
    have e0 : (x.name == "clone") = false := by simp [hnc]
    simp only [e0, Bool.and_false, Bool.false_and, Bool.or_false, plainAccess, Bool.or_eq_true, Bool.and_eq_true, beq_iff_eq, Bool.not_eq_true'] at hacc
    rcases hacc with ((q | q) | q) | q
    · exact Or.inl q
    · exact Or.inr (Or.inl q)
    · exact Or.inr (Or.inr (Or.inl q))
    · exact Or.inr (Or.inr (Or.inr ⟨q.1.1.1, q.1.1.2, q.1.2, by rcases q.2 with (z | z) | z; exact Or.inl z; exact Or.inr (Or.inl z); exact Or.inr (Or.inr z)⟩))
  have hv : via = true := by rw [← hvia]; exact hvi
  subst hv
  obtain ⟨cr, hcr, hlinks⟩ := State.classLinks_spec hd hcl pl hpl
  cases hc.symm.trans hcr
  obtain ⟨cp, hcp, hnames⟩ := State.names_spec hnm
  obtain ⟨dk', cf, hdk', hcf, rfl⟩ := State.poolOf?_spec hd hcp
  cases hdk.symm.trans hdk'
  obtain ⟨ci', nt, hent, hnt, -⟩ := namesOf?_method hnames
  have he : cf.constantPool[index]? = some (.interfaceMethodref ci nt) := by
    simp only [State.memberEntry?, hcp, Option.bind_eq_bind, Option.bind_some] at hme
    rcases hent with q | q <;> simp [q] at hme
    obtain rfl := hme
    exact q
  obtain ⟨dk2, cf2, nm2, _, hd2, hcf2, hl2, hn2, -⟩ := hlinks.here
  cases hdk.symm.trans hd2
  cases hcf.symm.trans hcf2
  have hne : ci ≠ index := fun q => by subst q; simp [ConstantPool.className?, he] at hn2
  exact ⟨ci, ⟨dk, cf, nt, x.name, x.desc, ck, ok, meth, hdk, hcf, he, hnt, hlinks, hne, hck, hvi, hpoly, hnone, State.faceFind_of_found hc hck hvi hpoly hnone hf, hok, hm, hl2.trans hml.symm, hplain, State.openOr_spec hd hdk hopen⟩, by simp [State.rightAt, hdk, hcf, hnames, hf]⟩
variable {p : Program} {l : Launch} {e : Env} {R : Room} {s : State} {m : MethodId} {args : Array Value} {below : List Frame} {meth : Method} {c : Code} {T : State} {locs : List Loc} {cells slots : Nat}
/-- an interface call of a method that a superinterface J declares -/
theorem own_ifaceUp (X : Stand p l e R s m args below meth c T locs cells slots) (hexec : p.tables.exec = Jvm.exec) {own C J : String} {index count : Nat} {xi y : MethodName}
    (hown : s.vm.findClass own = some m.cls) (hlink : (Cond.methodLink own index xi).before args s = true) (hdecl : (Cond.declares ⟨J, xi.name, xi.desc⟩).before args s = true)
    (hface : (Cond.interfaceMethod xi.cls J xi.name xi.desc).before args s = true) (hxo : xi.cls ≠ J) (hnc : xi.name ≠ "clone") (hsel : (Cond.selects C xi y).before args s = true) (hinst : (Cond.instanceMethod y).before args s = true)
    (hpub : (Cond.publicMethod y).before args s = true) (hunh : (Cond.unhidden C xi.name xi.desc).before args s = true) (hcast : (Cond.castable C xi.cls).before args s = true)
    (hx : xi.cls ≠ "java/lang/invoke/MethodHandle" ∧ xi.cls ≠ "java/lang/invoke/VarHandle")
    {W : Nat} {Pre : Pt → Array Value → Prop} {Post : Pt → Array Value → Option Value → Pt → Prop} (hK : Back l R p e below s args y 5 W Pre Post)
    {b : Addr} {cB : ClassId} {kB : Class} (hcB : s.vm.findClass C = some cB) (hkB : s.vm.classes[cB]? = some kB) (hrecv : IsOf cB T b)
    {g : JFrame} (hg : g.method = m) (hsize : g.locals.size = c.maxLocals) {s₀ : State} (hcome : Steps p.tables e below s₀ (T.setTop g)) {argsL rest : List Value}
    (hlen : ∀ sig, parseMethodDescriptor xi.desc = some sig → argsL.length = sig.parameters.length) (hstack : g.stack = argsL.reverse ++ .ref b :: rest) (hW : 2 * g.monitorRoom + (rest.map fun v => v.category).sum ≤ W)
    (hdg : decode c.code g.pc = .ok (.invokeinterface index count, 5)) (hpre : ∀ vm₁, s.WarmedH vm₁ → Pre ⟨T.setVm vm₁, locs, cells, slots⟩ (.ref b :: argsL).toArray) :
    ∃ (v : Option Value) (vm₁ : Vm) (B : Pt), s.WarmedH vm₁ ∧ Stand p l e R s m args below meth c B.U B.locs B.cells B.slots ∧ Post ⟨T.setVm vm₁, locs, cells, slots⟩ (.ref b :: argsL).toArray v B ∧
      Steps p.tables e below s₀ (B.U.setTop { g with pc := g.pc + 5, stack := v.toList ++ rest }) := by
  have hpl : e.platform.magicAccessors = ({} : Platform).magicAccessors := by rw [X.admits.platform]
  obtain ⟨cell, hcell, hcls, hstat⟩ := hrecv
  obtain ⟨r0, r, hn, hrm, hstR, hsigR⟩ := Cond.declares_spec hdecl
  obtain ⟨cI, kI, r1, hcI, hkI, hiI, hfI, hn1⟩ := Cond.interfaceMethod_spec hface
  cases hn.symm.trans hn1
  obtain ⟨ok, hok, hokn⟩ := className_of_methodNamed hn
  obtain ⟨hnR, hdR⟩ := name_of_methodNamed hn hrm
  have hmO : ok.methods[r0.idx]? = some r := by simpa [Vm.method?, hok] using hrm
  obtain ⟨mk, methM, hnamed, hmethM, -, habM⟩ := Cond.instanceMethod_spec hinst
  obtain ⟨c2, r2, m2, q1, q2, q3, q4, -⟩ := Cond.selects_spec hsel
  cases hcB.symm.trans q1
  cases hfI.symm.trans q2
  cases hnamed.symm.trans q3
  obtain ⟨c3, t3, w1, w2, w3⟩ := Cond.castable_spec hcast
  cases hcB.symm.trans w1
  cases hcI.symm.trans w2
  obtain ⟨kI', hkI', hnI⟩ := Vm.findClass_spec hcI
  cases hkI.symm.trans hkI'
  have hpoly : ∀ z, signaturePolymorphic kI z = false := fun z => by simp [signaturePolymorphic, hnI, hx.1, hx.2]
  have hnone : kI.findMethod xi.name xi.desc = none := by
    rcases hj : kI.findMethod xi.name xi.desc with _ | j
    · rfl
    · exfalso
      obtain ⟨hlt, -, -⟩ := Array.findIdx?_eq_some_iff_getElem.mp hj
      have h2 := State.methodFound?_declared hcI hkI hpoly hj (by simp [hlt])
      have e1 : r0 = ⟨cI, j⟩ := Option.some.inj (hfI.symm.trans h2)
      rw [e1] at hok
      cases hkI.symm.trans hok
      exact hxo (hnI.symm.trans hokn)
  obtain ⟨ci, hl, hright⟩ := own_linksUp hown hcI hkI hiI hnc hnone hfI hok hmO hx hlink e.platform hpl
  have hE : s.MethodEntryUp e T.vm m.cls index cI r0 ci := State.methodEntryFF X.warmed hl hright
  obtain ⟨dk, cf, nt, _, _, ck, _, _, hd, hcf, hcp, -, -, -, hck, hvia, -⟩ := hl.here
  cases hkI.symm.trans hck
  have al := hE.warmed.alike
  obtain ⟨dk₂, hdk₂, hres⟩ := hE.classReady
  obtain ⟨dk₃, hdk₃, hed⟩ := al.2.2 _ _ hd
  cases hdk₂.symm.trans hdk₃
  obtain ⟨ck₂, hck₂, hec⟩ := al.2.2 _ _ hck
  obtain ⟨kB₂, hkB₂, -⟩ := al.2.2 _ _ (show s.vm.classes[cell.cls]? = some kB by rw [hcls]; exact hkB)
  have hselP : selectMethod e.platform s.vm cell.cls r0 = .method mk := by rw [Launch.admits_selectMethod X.admits, hcls]; exact q4
  have hway : ((cell.cls :: s.vm.superclasses cell.cls).any fun k => (declaredIn s.vm r.name r.desc k).any fun (_, z) => z.isPrivate || z.isStatic) = false := by
    rw [hnR, hdR, hcls]; exact Cond.unhidden_spec hcB hunh
  have X₁ := X.noted hE.warmed
  have step : ∀ target, (∀ acts, Steps p.tables e below (doInvoke e ((T.setVm (T.vm.calledUp m.cls ci index cI r0)).setTop { g with stack := rest }) acts mk (.ref b :: argsL).toArray).1 target) → Steps p.tables e below (T.setTop g) target := fun target hrest => by
    subst hg
    jvm_step X.here [hexec, hdg, Jvm.Op.invokeinterface.wp_coldFace (e := e) (s := T) (s₀ := s) (f := g) (count := count) X.here.top X.warmed hE hd hcf (Or.inr hcp) hck hvia,
      Jvm.Op.invokeinterface.wp_ready (e := e) (s := T.setVm (T.vm.calledUp g.method.cls ci index cI r0)) (f := g) (count := count) (r := r) (meth := methM) (m := mk) (args := argsL) (rest := rest) (cell := cell) (kcell := kB₂) (ck := dk₂) (nk := ck₂) (cf := cf) (ci := ci) (nt := nt) (named := cI)
        X.here.top hE.ready (by show (T.vm.calledUp g.method.cls ci index cI r0).method? r0 = some r; rw [al.method?]; exact hrm) hstR (hlen _ hsigR) hstack hcell (fun z q => by rw [q] at hstat; cases hstat) hkB₂ hdk₂ (by rw [hed]; exact hcf) hcp hres hck₂ (by rw [hec]; exact hvia)
        (by show (T.vm.calledUp g.method.cls ci index cI r0).assignable cell.cls cI = true; rw [al.assignable, hcls]; exact w3)
        (by show selectMethod e.platform (T.vm.calledUp g.method.cls ci index cI r0) cell.cls r0 = .method mk; rw [al.selectMethod]; exact hselP)
        (by show (T.vm.calledUp g.method.cls ci index cI r0).method? mk = some methM; rw [al.method?]; exact hmethM)
        (Or.inr (Or.inr (by show ((cell.cls :: (T.vm.calledUp g.method.cls ci index cI r0).superclasses cell.cls).any fun k => (declaredIn (T.vm.calledUp g.method.cls ci index cI r0) r.name r.desc k).any fun (_, y) => y.isPrivate || y.isStatic) = false; simp only [al.superclasses, al.declaredIn]; exact hway)))
        (Or.inl (Cond.publicMethod_spec hnamed hmethM hpub)) habM]
    exact hrest
  obtain ⟨v, B, X', hpost, hsteps⟩ := hK m meth c ⟨T.setVm (T.vm.calledUp m.cls ci index cI r0), locs, cells, slots⟩ { g with stack := rest } (.invokeinterface index count) mk (.ref b :: argsL).toArray X₁ hg hsize hdg hW (X₁.named hnamed) (hpre _ hE.warmed)
  exact ⟨v, _, B, hE.warmed, X', hpost, (hcome.trans (step _ fun acts => by rw [doInvoke_state]; exact Steps.refl _)).trans hsteps⟩
theorem own_mvFace {Z s : State} {a0 args : Array Value} {r o n d : String} (hZ : Z.Warmed39 s.vm) (h : (Cond.interfaceMethod r o n d).before a0 Z = true) : (Cond.interfaceMethod r o n d).before args s = true := by
  obtain ⟨cL, kL, r1, hcL, hkL, hiL, hfound, hn1⟩ := Cond.interfaceMethod_spec h
  have f1 : s.vm.findClass r = some cL := by rw [hZ.alike.findClass]; exact hcL
  have f2 : s.methodFound? r n d = some r1 := (State.methodFound?_setVm (s := Z) hZ.alike r n d).trans hfound
  have f3 : s.methodNamed? ⟨o, n, d⟩ = some r1 := (State.methodNamed?_setVm (s := Z) hZ.alike (⟨o, n, d⟩ : MethodName)).trans hn1
  obtain ⟨k', hk', ek⟩ := hZ.alike.2.2 _ _ hkL
  have hi : k'.isInterface = true := by rw [ek]; exact hiL
  simp [Cond.before, Cond.holds, Cond.value, f1, f2, f3, hk', hi]
end OwnUp
section OwnRef
variable {p : Program} {l : Launch} {e : Env} {R : Room} {s : State} {m : MethodId} {args : Array Value} {below : List Frame} {meth : Method} {c : Code} {T : State} {locs : List Loc} {cells slots : Nat} {Z : State} {a0 : Array Value} {h h' : Heap} {a b : Addr} {k : ClassId} {n : Int32} {vs : List Value} {sl : Nat} {v : Value}
abbrev own_OB : String := "java/lang/Object"
abbrev own_OA : String := "[Ljava/lang/Object;"
/-- an Object[] with the elements vs -/
def own_AR (Z : State) (h : Heap) (a : Addr) (k : ClassId) (n : Int32) (vs : List Value) : Prop := Arv Z h a k (.object "java/lang/Object") n vs .null ∧ vs.length = n.toNatClampNeg ∧ Ovr Z k "java/lang/Object" ∧ Exa Z h a "[Ljava/lang/Object;"
theorem own_AR.keep {ws : List Addr} (V : own_AR Z h a k n vs) (K : Keep h h' ws) (q : a ∉ ws) : own_AR Z h' a k n vs := ⟨Arv.keep V.1 K q, V.2.1, V.2.2.1, Exa.keep V.2.2.2 K⟩
theorem own_AR.ext (V : own_AR Z h a k n vs) (E : Ext h h') : own_AR Z h' a k n vs := ⟨Arv.ext V.1 E, V.2.1, V.2.2.1, Exa.ext E V.2.2.2⟩
theorem own_AR.other (V : own_AR Z h b k n vs) (W : Wr h h' a sl v) (q : b ≠ a) : own_AR Z h' b k n vs := ⟨Arv.other V.1 W q, V.2.1, V.2.2.1, Exa.wr W V.2.2.2⟩
theorem own_AR.lt (V : own_AR Z h a k n vs) : a < h.size := Arv.lt V.1
theorem own_newR (X : Stand p l e R s m args below meth c T locs cells slots) (hx : p.tables.exec = Jvm.exec) (hZ : Z.Warmed39 s.vm) {own : String} {index : Nat} (hown : s.vm.findClass own = some m.cls) (w1 : (Cond.classLink own index "java/lang/Object").before a0 Z = true) (w2 : (Cond.arrayOver (.object "java/lang/Object")).before a0 Z = true)
    (eT : T.heap = h) {g : JFrame} (hg : g.method = m) (hd : decode c.code g.pc = .ok (.anewarray index, 3)) {rest : List Value} (hs : g.stack = .int n :: rest)
    (N : Nat) (hn : ¬ n < 0) (hN : n.toNatClampNeg ≤ N) (hb : N * 8 ≤ 536870912) (hc : cells + 1 ≤ R.cells) (hl : slots + N ≤ R.slots) :
    ∃ T' h' a k, Stand p l e R s m args below meth c T' locs (cells + 1) (slots + N) ∧ T'.heap = h' ∧ Ext h h' ∧ a = h.size ∧ own_AR Z h' a k n (List.replicate n.toNatClampNeg .null) ∧
      ∀ target, Steps p.tables e below (T'.setTop { g with pc := g.pc + 3, stack := .ref a :: rest }) target → Steps p.tables e below (T.setTop g) target := by
  obtain ⟨T', h', cA, X', e', E, A, Ex, O, st⟩ := newRE X hx hZ hown w1 w2 eT hg hd hs hn (cap := N) hN hb hc hl (ad := "[Ljava/lang/Object;") (by decide)
  refine ⟨T', h', h.size, cA, X', e', E, rfl, ⟨?_, by simp, O, Ex⟩, st⟩
  exact (Arv.new A hn).pad (pad_rep [] .null n.toNatClampNeg)
theorem own_stR (X : Stand p l e R s m args below meth c T locs cells slots) (hx : p.tables.exec = Jvm.exec) (hZ : Z.Warmed39 s.vm) (eT : T.heap = h) (V : own_AR Z h a k n vs) {j : Int32} (hj : ¬ j < 0 ∧ j < n) (I : v = .null ∨ ∃ y, v = .ref y ∧ Ins Z h y "java/lang/Object" true)
    {g : JFrame} (hg : g.method = m) {rest : List Value} (hs : g.stack = v :: .int j :: .ref a :: rest) (hd : decode c.code g.pc = .ok (.aastore, 1)) :
    ∃ T' h' L', Stand p l e R s m args below meth c T' L' cells slots ∧ T'.heap = h' ∧ (∀ n0, Fr n0 locs → n0 ≤ a → Fr n0 L') ∧ own_AR Z h' a k n (vs.set j.toNatClampNeg v) ∧ Wr h h' a j.toNatClampNeg v ∧
      ∀ target, Steps p.tables e below (T'.setTop { g with pc := g.pc + 1, stack := rest }) target → Steps p.tables e below (T.setTop g) target := by
  obtain ⟨⟨cl, A, q, S, N, H, G⟩, hlen, O, Ex⟩ := V
  have hin := inb_of S hj
  have F : Sto Z h a v := by
    rcases I with rfl | ⟨y, rfl, I⟩
    · exact Or.inl rfl
    · exact Sto.ofV A q O I
  have hfit : fits (.object "java/lang/Object") v = true := by
    rcases I with rfl | ⟨y, rfl, I⟩ <;> rfl
  obtain ⟨T', h', X', e', W, st⟩ := stR X hx hZ eT A hin rfl F hg hs hd
  have hlt : j.toNatClampNeg < vs.length := by rw [hlen, ← S]; exact Nat.lt_of_not_le fun q => hin (Or.inr q)
  have V2 := Arv.set A q S N H G hfit W j.toNatClampNeg rfl hlt
  exact ⟨T', h', _, X', e', fun n0 F q => Fr.snoc X' F q, ⟨V2, by rw [List.length_set]; exact hlen, O, Exa.wr W Ex⟩, W, st⟩
theorem own_ldR (X : Stand p l e R s m args below meth c T locs cells slots) (hx : p.tables.exec = Jvm.exec) (hZ : Z.Warmed39 s.vm) (eT : T.heap = h) (V : own_AR Z h a k n vs) {j : Int32} (hj : ¬ j < 0 ∧ j < n) (hv : vs.getD j.toNatClampNeg .null = v)
    {g : JFrame} (hg : g.method = m) {rest : List Value} (hs : g.stack = .int j :: .ref a :: rest) (hd : decode c.code g.pc = .ok (.aaload, 1)) :
    ∀ target, Steps p.tables e below (T.setTop { g with pc := g.pc + 1, stack := v :: rest }) target → Steps p.tables e below (T.setTop g) target := by
  obtain ⟨⟨cl, A, q, S, N, H, G⟩, hlen, O, Ex⟩ := V
  have hin := inb_of S hj
  have hat : cl.slots[j.toNatClampNeg]? = some v := by
    rw [H _ (Nat.lt_of_not_le fun q => hin (Or.inr q)), hv]
  exact X.aaload hx (by rw [eT]; exact A.1) (State.isArrayOf_alike hZ.alike A.2.1) rfl A.2.2 hin hat hg hs hd
theorem own_lenR (X : Stand p l e R s m args below meth c T locs cells slots) (hx : p.tables.exec = Jvm.exec) (hZ : Z.Warmed39 s.vm) (eT : T.heap = h) (V : own_AR Z h a k n vs)
    {g : JFrame} (hg : g.method = m) {rest : List Value} (hs : g.stack = .ref a :: rest) (hd : decode c.code g.pc = .ok (.arraylength, 1)) :
    ∀ target, Steps p.tables e below (T.setTop { g with pc := g.pc + 1, stack := .int n :: rest }) target → Steps p.tables e below (T.setTop g) target := by
  obtain ⟨⟨cl, A, q, S, N, H, G⟩, hlen, O, Ex⟩ := V
  have st := X.arraylength hx (by rw [eT]; exact A.1) (State.isArrayOf_alike hZ.alike A.2.1) hg hs hd
  rw [len_of S N] at st
  exact st
def own_Mir (Z : State) (C : String) (m : Addr) : Prop := ∃ (c : ClassId) (k : Class), Z.vm.findClass C = some c ∧ Z.vm.classes[c]? = some k ∧ k.mirror = some m
theorem own_gcls (X : Stand p l e R s m args below meth c T locs cells slots) (hx : p.tables.exec = Jvm.exec) (hZ : Z.Warmed39 s.vm) {own C : String} {index : Nat} (hown : s.vm.findClass own = some m.cls)
    (w1 : (Cond.methodLink own index Jvm.Stand.gcN).before a0 Z = true) (w2 : (Cond.declares Jvm.Stand.gcN).before a0 Z = true) (w4 : (Cond.selects C Jvm.Stand.gcN Jvm.Stand.gcN).before a0 Z = true)
    (w5 : (Cond.instanceMethod Jvm.Stand.gcN).before a0 Z = true) (w6 : (Cond.native Jvm.Stand.gcN).before a0 Z = true) (eT : T.heap = h) (E : Exa Z h a C) {mr : Addr} (M : own_Mir Z C mr)
    {g : JFrame} (hg : g.method = m) (hsize : g.locals.size = c.maxLocals) {rest : List Value} (hs : g.stack = .ref a :: rest) (hd : decode c.code g.pc = .ok (.invokevirtual index, 3)) (hf : 1 ≤ R.frames) {W : Nat} (hW : 2 * g.monitorRoom + (rest.map fun v => v.category).sum ≤ W) (hl : W + (nativeFrameWords "java/lang/Object" "getClass" 1 + 11) ≤ R.locals) :
    ∃ T', Stand p l e R s m args below meth c T' locs cells slots ∧ T'.heap = h ∧ ∀ target, Steps p.tables e below (T'.setTop { g with pc := g.pc + 3, stack := .ref mr :: rest }) target → Steps p.tables e below (T.setTop g) target := by
  obtain ⟨cB, kB, i1, i2, i3⟩ := isOf hZ eT E
  obtain ⟨cc, kc, m1, m2, m3⟩ := M
  rw [hZ.alike.findClass] at i1
  cases i1.symm.trans m1
  obtain ⟨k', q, ek⟩ := hZ.alike.2.2 _ _ m2
  obtain ⟨vm', X', st⟩ := X.getClassOf hx hown (mvT hZ w1) (mvT hZ w2) (notFace_of_selects (args := #[]) (mvT hZ w4)) (mvT hZ w4) (mvT hZ w5) (mvT hZ w6) (by rw [hZ.alike.findClass]; exact m1) i3 q (by rw [ek]; exact m3) hg hsize hs hd hf (by omega)
  exact ⟨_, X', eT, st⟩
theorem own_ldcC (X : Stand p l e R s m args below meth c T locs cells slots) (hx : p.tables.exec = Jvm.exec) (hZ : Z.Warmed39 s.vm) {own C : String} {index : Nat} (hown : s.vm.findClass own = some m.cls) (w : (Cond.classLink own index C).before a0 Z = true) (eT : T.heap = h) {mr : Addr} (M : own_Mir Z C mr)
    {g : JFrame} (hg : g.method = m) (hd : decode c.code g.pc = .ok (.ldc index, 2)) :
    ∃ T', Stand p l e R s m args below meth c T' locs cells slots ∧ T'.heap = h ∧ ∀ target, Steps p.tables e below (T'.setTop { g with pc := g.pc + 2, stack := .ref mr :: g.stack }) target → Steps p.tables e below (T.setTop g) target := by
  obtain ⟨cc, kc, m1, m2, m3⟩ := M
  obtain ⟨k', q, ek⟩ := hZ.alike.2.2 _ _ m2
  have hev : (Term.mirror C).eval args s none [] s = some (.ref mr) := by
    simp only [Term.eval, Option.bind_eq_bind, Option.bind_eq_some_iff, Option.pure_def, Option.some.injEq]
    exact ⟨cc, by rw [hZ.alike.findClass]; exact m1, k', q, mr, by rw [ek]; exact m3, rfl⟩
  obtain ⟨vm', X', st⟩ := X.ldcMirror hx hown (mv hZ w) hev hg hd
  exact ⟨_, X', eT, st⟩
theorem own_cp (X : Stand p l e R s m args below meth c T locs cells slots) (hx : p.tables.exec = Jvm.exec) (hZ : Z.Warmed39 s.vm) {own : String} {index : Nat} (hown : s.vm.findClass own = some m.cls)
    (w1 : (Cond.methodLink own index Jvm.Stand.acN).before a0 Z = true) (w2 : (Cond.native Jvm.Stand.acN).before a0 Z = true) (w3 : (Cond.static Jvm.Stand.acN).before a0 Z = true) (w4 : (Cond.initialized "java/lang/System").before a0 Z = true) (eT : T.heap = h)
    {k' : ClassId} {z z' sp dp nn : Int32} {us vd : List Value} (A : own_AR Z h a k z vs) (B : own_AR Z h b k' z' vd) (hI : ∀ u ∈ us, u = .null ∨ ∃ y, u = .ref y ∧ Ins Z h y "java/lang/Object" true)
    (h1 : ¬ sp < 0) (h2 : ¬ dp < 0) (h3 : ¬ nn < 0) (h4 : sp.toNatClampNeg + nn.toNatClampNeg ≤ z.toNatClampNeg) (h5 : dp.toNatClampNeg + nn.toNatClampNeg ≤ z'.toNatClampNeg)
    (hus : us = (List.range nn.toNatClampNeg).map fun i => vs.getD (sp.toNatClampNeg + i) .null) {n0 : Nat} (N : Fr n0 locs) (ge : n0 ≤ b)
    {g : JFrame} (hg : g.method = m) (hsize : g.locals.size = c.maxLocals) {rest : List Value} (hs : g.stack = .int nn :: .int dp :: .ref b :: .int sp :: .ref a :: rest) (hd : decode c.code g.pc = .ok (.invokestatic index, 3))
    (hf : 1 ≤ R.frames) {W : Nat} (hW : 2 * g.monitorRoom + (rest.map fun v => v.category).sum ≤ W) (hlo : W + (nativeFrameWords "java/lang/System" "arraycopy" 5 + 11) ≤ R.locals) :
    ∃ T' h' L, Stand p l e R s m args below meth c T' L cells slots ∧ T'.heap = h' ∧ Fr n0 L ∧ Keep h h' [b] ∧ own_AR Z h' b k' z' (vd.take dp.toNatClampNeg ++ us ++ vd.drop (dp.toNatClampNeg + nn.toNatClampNeg)) ∧
      ∀ target, Steps p.tables e below (T'.setTop { g with pc := g.pc + 3, stack := rest }) target → Steps p.tables e below (T.setTop g) target := by
  have B0 := B
  obtain ⟨B1, B2, B3, B4⟩ := B0
  have sto : ∀ us : List Value, (∀ u ∈ us, u = .null ∨ ∃ y, u = .ref y ∧ Ins Z h y "java/lang/Object" true) → StoL Z h b us := by
    intro us
    induction us with
    | nil => intro _; trivial
    | cons u us ih =>
      intro q
      refine ⟨?_, ih (fun w hw => q w (List.mem_cons_of_mem _ hw))⟩
      rcases q u List.mem_cons_self with rfl | ⟨y, rfl, I⟩
      · exact Or.inl rfl
      · obtain ⟨cl, A1, q1, -⟩ := B1
        exact Sto.ofV A1 q1 B3 I
  obtain ⟨T', h', L, X', e', N', K, V, st⟩ := cpA X hx hZ hown w1 w2 w3 w4 eT A.1 B1 (Or.inr ⟨rfl, rfl, sto us hI⟩) h1 h2 h3 h4 h5 hus (by rw [B2]; exact h5) N ge hg hsize hs hd hf hW hlo
  refine ⟨T', h', L, X', e', N', K, ⟨V, ?_, B3, Exa.keep B4 K⟩, st⟩
  have lu : us.length = nn.toNatClampNeg := by rw [hus]; simp
  rw [List.length_append, List.length_append, List.length_take, List.length_drop, lu, B2]
  omega
/-- invokespecial of a constructor whose entry the run has resolved -/
theorem own_specialRef (X : Stand p l e R s m args below meth c T locs cells slots) (hx : p.tables.exec = Jvm.exec) {own : String} {index : Nat} {y : MethodName} (hy1 : y.name = "<init>")
    (hown : s.vm.findClass own = some m.cls) (href : (Cond.methodRef own index y).before args s = true) (hinst : (Cond.instanceMethod y).before args s = true)
    {bytes : ByteArray} {maxL : Nat} (hcode : (Cond.code y bytes maxL none).before args s = true)
    (hy : y.cls ≠ "java/lang/invoke/MethodHandle" ∧ y.cls ≠ "java/lang/invoke/VarHandle")
    {W : Nat} {Pre : Pt → Array Value → Prop} {Post : Pt → Array Value → Option Value → Pt → Prop} (hK : Back l R p e below s args y 3 W Pre Post)
    {g : JFrame} (hg : g.method = m) (hsize : g.locals.size = c.maxLocals) {s₀ : State} (hcome : Steps p.tables e below s₀ (T.setTop g)) {a : Addr} {argsL rest : List Value}
    (hlen : ∀ sig, parseMethodDescriptor y.desc = some sig → argsL.length = sig.parameters.length) (hstack : g.stack = argsL.reverse ++ .ref a :: rest) (hW : 2 * g.monitorRoom + (rest.map fun v => v.category).sum ≤ W)
    (hdg : decode c.code g.pc = .ok (.invokespecial index, 3)) (hpre : ∀ vm₁, s.WarmedH vm₁ → Pre ⟨T.setVm vm₁, locs, cells, slots⟩ (.ref a :: argsL).toArray) :
    ∃ (v : Option Value) (vm₁ : Vm) (B : Pt), s.WarmedH vm₁ ∧ Stand p l e R s m args below meth c B.U B.locs B.cells B.slots ∧ Post ⟨T.setVm vm₁, locs, cells, slots⟩ (.ref a :: argsL).toArray v B ∧
      Steps p.tables e below s₀ (B.U.setTop { g with pc := g.pc + 3, stack := v.toList ++ rest }) := by
  have hW₁ := X.warmed
  obtain ⟨obj, methO, hnO, hmO, hstO, habO⟩ := Cond.instanceMethod_spec hinst
  obtain ⟨methO', cO, hmO', hcO, hbO, hlO, -, hlockO, -, hsigO⟩ := Cond.code_spec hnO hcode
  cases hmO.symm.trans hmO'
  obtain ⟨kO, hkO, hnameO⟩ := className_of_methodNamed hnO
  obtain ⟨hnameMO, hdescO⟩ := name_of_methodNamed hnO hmO
  have href' : (Cond.methodRef own index y).before args (s.setVm T.vm) = true := Cond.methodRef_warmed hW₁ hnO hy href
  have hfO : (s.setVm T.vm).methodFound? y.cls y.name y.desc = some obj := State.methodFound?_of_named (s := s.setVm T.vm) (by rw [State.methodNamed?_setVm hW₁.alike]; exact hnO) hy
  obtain ⟨mf, c', hfound', hready, hfind, hnres⟩ := Cond.methodRef_named (s := s.setVm T.vm) e (by show T.vm.findClass own = _; rw [hW₁.alike.findClass]; exact hown) href'
  cases hfO.symm.trans hfound'
  obtain ⟨kO₂, hkO₂, heO₂⟩ := hW₁.alike.2.2 _ _ hkO
  have hmO₂ : T.vm.method? obj = some methO := by rw [hW₁.alike.method?]; exact hmO
  have hcls : c' = obj.cls := by
    have e1 : s.vm.findClass y.cls = some obj.cls := findClass_of_methodNamed hnO
    have e2 : T.vm.findClass y.cls = some c' := hfind
    rw [hW₁.alike.findClass, e1] at e2
    exact (Option.some.inj e2).symm
  subst hcls
  have hfound : lookupSpecial T.vm obj.cls "<init>" methO.desc = .method obj := by
    rw [hW₁.alike.lookupSpecial, hdescO, ← hy1]; exact lookupSpecial_of_named hnO hmO hstO
  have hstep : ∀ target, (∀ acts, Steps p.tables e below (doInvoke e (T.setTop { g with stack := rest }) acts obj (.ref a :: argsL).toArray).1 target) → Steps p.tables e below (T.setTop g) target := fun target hrest => by
    subst hg
    jvm_step X.here [hx, hdg, invokespecial.wp_init (e := e) (s := T) (k := kO₂) (meth := methO) (m := obj) (a := a) (args := argsL) (rest := rest) (f := g)
      X.here.top hnres hready hkO₂ hmO₂ (by rw [hnameMO]; exact hy1) hstO habO hfound (hlen _ hsigO) hstack]
    exact hrest
  have X₁ := X.noted hW₁
  obtain ⟨v, B, X', hpost, hsteps⟩ := hK m meth c ⟨T.setVm T.vm, locs, cells, slots⟩ { g with stack := rest } (.invokespecial index) obj (.ref a :: argsL).toArray X₁ hg hsize hdg hW (X₁.named hnO) (hpre T.vm hW₁)
  exact ⟨v, T.vm, B, hW₁, X', hpost, (hcome.trans (hstep _ fun acts => by rw [doInvoke_state]; exact Steps.refl _)).trans hsteps⟩
end OwnRef
abbrev own_Hw (a0 : Array Value) (Z : State) : Prop := ∀ d ∈ tables_1, d.before a0 Z = true
theorem own_Wd {a0 : Array Value} {Z : State} (hw : own_Hw a0 Z) (i : Nat) {d : Jvm.Cond} (q : tables_1[i]? = some d) : d.before a0 Z = true := hw _ (List.mem_of_getElem? q)
theorem own_mvRef {Z s : State} {a0 args : Array Value} {own : String} {i : Nat} {y : MethodName} (hZ : Z.Warmed39 s.vm) (hy : y.cls ≠ "java/lang/invoke/MethodHandle" ∧ y.cls ≠ "java/lang/invoke/VarHandle") (wi : (Cond.instanceMethod y).before a0 Z = true) (w : (Cond.methodRef own i y).before a0 Z = true) : (Cond.methodRef own i y).before args s = true := by
  obtain ⟨m, meth, hn, -⟩ := Cond.instanceMethod_spec wi
  have q := Cond.methodRef_warmed39 hZ hn hy w
  exact q
section OwnGoes
variable {p : Program} {l : Launch} {e : Env} {R rm : Room} {s : State} {m : MethodId} {args : Array Value} {below : List Frame} {meth : Method} {c : Code} {T : State} {locs : List Loc} {cells slots : Nat} {Z : State} {a0 : Array Value} {h : Heap} {P : State → Outcome → Prop} {pc n : Nat} {Ls : Array Slot} {S rest : List Value} {B : ByteArray}
theorem o_aload (X : Stand p l e R s m args below meth c T locs cells slots) (hx : p.tables.exec = Jvm.exec) (hB : c.code = B) {k : Nat} {v : Value} (d : decode B n = .ok (.aload k, 2)) (hl : Ls[k]? = some (.val v)) (hv : v.isRef = true) (G : own_Goes p.tables e below (T.setTop (mkF m (n + 2) Ls (v :: S))) P) (hq : pc = n := by rfl) : own_Goes p.tables e below (T.setTop (mkF m pc Ls S)) P := by
  subst hq hB
  exact own_step (fun _ => XS.aload X.here hx rfl d hl hv) G
theorem o_astore (X : Stand p l e R s m args below meth c T locs cells slots) (hx : p.tables.exec = Jvm.exec) (hB : c.code = B) {k : Nat} {v : Value} (L' : Array Slot) (d : decode B n = .ok (.astore k, 2)) (hv : v.isRef = true) (hl : storeLocals Ls k v = some L') (G : own_Goes p.tables e below (T.setTop (mkF m (n + 2) L' S)) P) (hq : pc = n := by rfl) : own_Goes p.tables e below (T.setTop (mkF m pc Ls (v :: S))) P := by
  subst hq hB
  exact own_step (fun _ => XS.astore X.here hx rfl d rfl hv hl) G
theorem o_aloadN (X : Stand p l e R s m args below meth c T locs cells slots) (hx : p.tables.exec = Jvm.exec) (hB : c.code = B) {k : Fin 4} {v : Value} (d : decode B n = .ok (.aload_n k, 1)) (hl : Ls[k.val]? = some (.val v)) (hv : v.isRef = true) (G : own_Goes p.tables e below (T.setTop (mkF m (n + 1) Ls (v :: S))) P) (hq : pc = n := by rfl) : own_Goes p.tables e below (T.setTop (mkF m pc Ls S)) P := by
  subst hq hB
  exact own_step (fun _ => XS.aloadN X.here hx rfl d hl hv) G
theorem o_astoreN (X : Stand p l e R s m args below meth c T locs cells slots) (hx : p.tables.exec = Jvm.exec) (hB : c.code = B) {k : Fin 4} {v : Value} (L' : Array Slot) (d : decode B n = .ok (.astore_n k, 1)) (hv : v.isRef = true) (hl : storeLocals Ls k.val v = some L') (G : own_Goes p.tables e below (T.setTop (mkF m (n + 1) L' S)) P) (hq : pc = n := by rfl) : own_Goes p.tables e below (T.setTop (mkF m pc Ls (v :: S))) P := by
  subst hq hB
  exact own_step (fun _ => XS.astoreN X.here hx rfl d rfl hv hl) G
theorem o_iload (X : Stand p l e R s m args below meth c T locs cells slots) (hx : p.tables.exec = Jvm.exec) (hB : c.code = B) {k : Nat} {v : Int32} (d : decode B n = .ok (.iload k, 2)) (hl : Ls[k]? = some (.val (.int v))) (G : own_Goes p.tables e below (T.setTop (mkF m (n + 2) Ls ((.int v) :: S))) P) (hq : pc = n := by rfl) : own_Goes p.tables e below (T.setTop (mkF m pc Ls S)) P := by
  subst hq hB
  exact own_step (fun _ => XS.iload X.here hx rfl d hl) G
theorem o_istore (X : Stand p l e R s m args below meth c T locs cells slots) (hx : p.tables.exec = Jvm.exec) (hB : c.code = B) {k : Nat} {v : Int32} (L' : Array Slot) (d : decode B n = .ok (.istore k, 2)) (hl : storeLocals Ls k (.int v) = some L') (G : own_Goes p.tables e below (T.setTop (mkF m (n + 2) L' S)) P) (hq : pc = n := by rfl) : own_Goes p.tables e below (T.setTop (mkF m pc Ls ((.int v) :: S))) P := by
  subst hq hB
  exact own_step (fun _ => XS.istore X.here hx rfl d rfl hl) G
theorem o_iloadN (X : Stand p l e R s m args below meth c T locs cells slots) (hx : p.tables.exec = Jvm.exec) (hB : c.code = B) {k : Fin 4} {v : Int32} (d : decode B n = .ok (.iload_n k, 1)) (hl : Ls[k.val]? = some (.val (.int v))) (G : own_Goes p.tables e below (T.setTop (mkF m (n + 1) Ls ((.int v) :: S))) P) (hq : pc = n := by rfl) : own_Goes p.tables e below (T.setTop (mkF m pc Ls S)) P := by
  subst hq hB
  exact own_step (fun _ => XS.iloadN X.here hx rfl d hl) G
theorem o_istoreN (X : Stand p l e R s m args below meth c T locs cells slots) (hx : p.tables.exec = Jvm.exec) (hB : c.code = B) {k : Fin 4} {v : Int32} (L' : Array Slot) (d : decode B n = .ok (.istore_n k, 1)) (hl : storeLocals Ls k.val (.int v) = some L') (G : own_Goes p.tables e below (T.setTop (mkF m (n + 1) L' S)) P) (hq : pc = n := by rfl) : own_Goes p.tables e below (T.setTop (mkF m pc Ls ((.int v) :: S))) P := by
  subst hq hB
  exact own_step (fun _ => XS.istoreN X.here hx rfl d rfl hl) G
theorem o_lload (X : Stand p l e R s m args below meth c T locs cells slots) (hx : p.tables.exec = Jvm.exec) (hB : c.code = B) {k : Nat} {v : Int64} (d : decode B n = .ok (.lload k, 2)) (hl : Ls[k]? = some (.val (.long v))) (G : own_Goes p.tables e below (T.setTop (mkF m (n + 2) Ls ((.long v) :: S))) P) (hq : pc = n := by rfl) : own_Goes p.tables e below (T.setTop (mkF m pc Ls S)) P := by
  subst hq hB
  exact own_step (fun _ => XS.lload X.here hx rfl d hl) G
theorem o_lloadN (X : Stand p l e R s m args below meth c T locs cells slots) (hx : p.tables.exec = Jvm.exec) (hB : c.code = B) {k : Fin 4} {v : Int64} (d : decode B n = .ok (.lload_n k, 1)) (hl : Ls[k.val]? = some (.val (.long v))) (G : own_Goes p.tables e below (T.setTop (mkF m (n + 1) Ls ((.long v) :: S))) P) (hq : pc = n := by rfl) : own_Goes p.tables e below (T.setTop (mkF m pc Ls S)) P := by
  subst hq hB
  exact own_step (fun _ => XS.lloadN X.here hx rfl d hl) G
theorem o_iconst (X : Stand p l e R s m args below meth c T locs cells slots) (hx : p.tables.exec = Jvm.exec) (hB : c.code = B) {i : Int} (d : decode B n = .ok (.iconst i, 1)) (z : Int32) (G : own_Goes p.tables e below (T.setTop (mkF m (n + 1) Ls (.int z :: S))) P) (hz : Int32.ofInt i = z := by rfl) (hq : pc = n := by rfl) : own_Goes p.tables e below (T.setTop (mkF m pc Ls S)) P := by
  subst hq hB hz
  exact own_step (fun _ => XS.iconst X.here hx rfl d) G
theorem o_bipush (X : Stand p l e R s m args below meth c T locs cells slots) (hx : p.tables.exec = Jvm.exec) (hB : c.code = B) {i : Int} (d : decode B n = .ok (.bipush i, 2)) (z : Int32) (G : own_Goes p.tables e below (T.setTop (mkF m (n + 2) Ls (.int z :: S))) P) (hz : (Int8.ofInt i).toInt32 = z := by rfl) (hq : pc = n := by rfl) : own_Goes p.tables e below (T.setTop (mkF m pc Ls S)) P := by
  subst hq hB hz
  exact own_step (fun _ => XS.bipush X.here hx rfl d) G
theorem o_iadd (X : Stand p l e R s m args below meth c T locs cells slots) (hx : p.tables.exec = Jvm.exec) (hB : c.code = B) {x y : Int32} (d : decode B n = .ok (.iadd, 1)) (G : own_Goes p.tables e below (T.setTop (mkF m (n + 1) Ls (.int (x + y) :: S))) P) (hq : pc = n := by rfl) : own_Goes p.tables e below (T.setTop (mkF m pc Ls (.int y :: .int x :: S))) P := by
  subst hq hB
  exact own_step (fun _ => XS.iadd X.here hx rfl d rfl) G
theorem o_isub (X : Stand p l e R s m args below meth c T locs cells slots) (hx : p.tables.exec = Jvm.exec) (hB : c.code = B) {x y : Int32} (d : decode B n = .ok (.isub, 1)) (G : own_Goes p.tables e below (T.setTop (mkF m (n + 1) Ls (.int (x - y) :: S))) P) (hq : pc = n := by rfl) : own_Goes p.tables e below (T.setTop (mkF m pc Ls (.int y :: .int x :: S))) P := by
  subst hq hB
  exact own_step (fun _ => XS.isub X.here hx rfl d rfl) G
theorem o_iand (X : Stand p l e R s m args below meth c T locs cells slots) (hx : p.tables.exec = Jvm.exec) (hB : c.code = B) {x y : Int32} (d : decode B n = .ok (.iand, 1)) (G : own_Goes p.tables e below (T.setTop (mkF m (n + 1) Ls (.int (x &&& y) :: S))) P) (hq : pc = n := by rfl) : own_Goes p.tables e below (T.setTop (mkF m pc Ls (.int y :: .int x :: S))) P := by
  subst hq hB
  exact own_step (fun _ => XS.iand X.here hx rfl d rfl) G
theorem o_lcmp (X : Stand p l e R s m args below meth c T locs cells slots) (hx : p.tables.exec = Jvm.exec) (hB : c.code = B) {x y : Int64} (d : decode B n = .ok (.lcmp, 1)) (G : own_Goes p.tables e below (T.setTop (mkF m (n + 1) Ls (.int (Jvm.Free.XT.cmpL x y) :: S))) P) (hq : pc = n := by rfl) : own_Goes p.tables e below (T.setTop (mkF m pc Ls (.long y :: .long x :: S))) P := by
  subst hq hB
  exact own_step (fun _ => Jvm.Free.XT.lcmp X.here hx rfl d rfl) G
theorem o_dup (X : Stand p l e R s m args below meth c T locs cells slots) (hx : p.tables.exec = Jvm.exec) (hB : c.code = B) {x : Value} (d : decode B n = .ok (.dup, 1)) (hc : x.category = 1) (G : own_Goes p.tables e below (T.setTop (mkF m (n + 1) Ls (x :: x :: S))) P) (hq : pc = n := by rfl) : own_Goes p.tables e below (T.setTop (mkF m pc Ls (x :: S))) P := by
  subst hq hB
  exact own_step (fun _ => XS.dup X.here hx rfl d rfl hc) G
theorem o_pop (X : Stand p l e R s m args below meth c T locs cells slots) (hx : p.tables.exec = Jvm.exec) (hB : c.code = B) {x : Value} (d : decode B n = .ok (.pop, 1)) (hc : x.category = 1) (G : own_Goes p.tables e below (T.setTop (mkF m (n + 1) Ls S)) P) (hq : pc = n := by rfl) : own_Goes p.tables e below (T.setTop (mkF m pc Ls (x :: S))) P := by
  subst hq hB
  exact own_step (fun _ => XS.pop X.here hx rfl d rfl hc) G
theorem o_goto (X : Stand p l e R s m args below meth c T locs cells slots) (hx : p.tables.exec = Jvm.exec) (hB : c.code = B) {o : Int} (d : decode B n = .ok (.goto o, 3)) (q : Nat) (G : own_Goes p.tables e below (T.setTop (mkF m q Ls S)) P) (ho : 0 ≤ (n : Int) + o := by decide) (hp : ((n : Int) + o).toNat = q := by decide) (hq : pc = n := by rfl) : own_Goes p.tables e below (T.setTop (mkF m pc Ls S)) P := by
  subst hq hB
  exact own_step (fun _ => XS.goto X.here hx rfl rfl d ho hp) G
theorem o_ifYes (X : Stand p l e R s m args below meth c T locs cells slots) (hx : p.tables.exec = Jvm.exec) (hB : c.code = B) {cd : ClassFile.Cond} {x : Int32} {o : Int} (d : decode B n = .ok (.ifCond cd o, 3)) (hc : ifCond.holds cd x = true) (q : Nat) (G : own_Goes p.tables e below (T.setTop (mkF m q Ls S)) P) (ho : 0 ≤ (n : Int) + o := by decide) (hp : ((n : Int) + o).toNat = q := by decide) (hq : pc = n := by rfl) : own_Goes p.tables e below (T.setTop (mkF m pc Ls (.int x :: S))) P := by
  subst hq hB
  exact own_step (fun _ => XS.ifYes X.here hx rfl rfl d rfl hc ho hp) G
theorem o_ifNo (X : Stand p l e R s m args below meth c T locs cells slots) (hx : p.tables.exec = Jvm.exec) (hB : c.code = B) {cd : ClassFile.Cond} {x : Int32} {o : Int} (d : decode B n = .ok (.ifCond cd o, 3)) (hc : ifCond.holds cd x = false) (G : own_Goes p.tables e below (T.setTop (mkF m (n + 3) Ls S)) P) (hq : pc = n := by rfl) : own_Goes p.tables e below (T.setTop (mkF m pc Ls (.int x :: S))) P := by
  subst hq hB
  exact own_step (fun _ => XS.ifNo X.here hx rfl d rfl hc) G
theorem o_icmpYes (X : Stand p l e R s m args below meth c T locs cells slots) (hx : p.tables.exec = Jvm.exec) (hB : c.code = B) {cd : ClassFile.Cond} {x y : Int32} {o : Int} (d : decode B n = .ok (.if_icmp cd o, 3)) (hc : if_icmp.holds cd x y = true) (q : Nat) (G : own_Goes p.tables e below (T.setTop (mkF m q Ls S)) P) (ho : 0 ≤ (n : Int) + o := by decide) (hp : ((n : Int) + o).toNat = q := by decide) (hq : pc = n := by rfl) : own_Goes p.tables e below (T.setTop (mkF m pc Ls (.int y :: .int x :: S))) P := by
  subst hq hB
  exact own_step (fun _ => XS.icmpYes X.here hx rfl rfl d rfl hc ho hp) G
theorem o_icmpNo (X : Stand p l e R s m args below meth c T locs cells slots) (hx : p.tables.exec = Jvm.exec) (hB : c.code = B) {cd : ClassFile.Cond} {x y : Int32} {o : Int} (d : decode B n = .ok (.if_icmp cd o, 3)) (hc : if_icmp.holds cd x y = false) (G : own_Goes p.tables e below (T.setTop (mkF m (n + 3) Ls S)) P) (hq : pc = n := by rfl) : own_Goes p.tables e below (T.setTop (mkF m pc Ls (.int y :: .int x :: S))) P := by
  subst hq hB
  exact own_step (fun _ => XS.icmpNo X.here hx rfl d rfl hc) G
/-- a step that writes nothing -/
theorem own_k1 {F : JFrame} {pc' : Nat} {S' : List Value} (H : ∃ T', Stand p l e R s m args below meth c T' locs cells slots ∧ T'.heap = h ∧ ∀ target, Steps p.tables e below (T'.setTop F) target → Steps p.tables e below (T.setTop (mkF m pc Ls S)) target) (hF : F = mkF m pc' Ls S') (k : ∀ T', Stand p l e R s m args below meth c T' locs cells slots → T'.heap = h → own_Goes p.tables e below (T'.setTop (mkF m pc' Ls S')) P) : own_Goes p.tables e below (T.setTop (mkF m pc Ls S)) P := by
  subst hF
  obtain ⟨T', X, q, st⟩ := H
  exact own_step st (k T' X q)
theorem o_getF (X : Stand p l e R s m args below meth c T locs cells slots) (hx : p.tables.exec = Jvm.exec) (hZ : Z.Warmed39 s.vm) (hB : c.code = B) {own R0 O nm ds : String} {index : Nat} {a : Addr} {v : Value} (hown : s.vm.findClass own = some m.cls) (w : ((Cond.fieldLink own index R0 nm ds).before a0 Z = true)) (via : Via Z R0 O nm ds) (eT : T.heap = h) (F : Fld Z h a O nm ds v) (d : decode B n = .ok (.getfield index, 3)) (k : ∀ T', Stand p l e R s m args below meth c T' locs cells slots → T'.heap = h → own_Goes p.tables e below (T'.setTop (mkF m (n + 3) Ls (v :: S))) P) (hq : pc = n := by rfl) : own_Goes p.tables e below (T.setTop (mkF m pc Ls (.ref a :: S))) P := by
  subst hq hB
  exact own_k1 (getF X hx hZ hown (host := "") (Or.inl w) via eT F rfl rfl d) rfl k
theorem o_getS (X : Stand p l e R s m args below meth c T locs cells slots) (hx : p.tables.exec = Jvm.exec) (hZ : Z.Warmed39 s.vm) (hB : c.code = B) {own R0 O nm ds : String} {index : Nat} {v : Value} (hown : s.vm.findClass own = some m.cls) (w : ((Cond.fieldLink own index R0 nm ds).before a0 Z = true)) (via : Via Z R0 O nm ds) (eT : T.heap = h) (F : Sta Z h O nm ds v) (d : decode B n = .ok (.getstatic index, 3)) (k : ∀ T', Stand p l e R s m args below meth c T' locs cells slots → T'.heap = h → own_Goes p.tables e below (T'.setTop (mkF m (n + 3) Ls (v :: S))) P) (hq : pc = n := by rfl) : own_Goes p.tables e below (T.setTop (mkF m pc Ls S)) P := by
  subst hq hB
  exact own_k1 (getS2 X hx hZ hown (host := "") (Or.inl w) via eT F rfl d) rfl k
theorem o_cast (X : Stand p l e R s m args below meth c T locs cells slots) (hx : p.tables.exec = Jvm.exec) (hZ : Z.Warmed39 s.vm) (hB : c.code = B) {own C : String} {index : Nat} {a : Addr} (hown : s.vm.findClass own = some m.cls) (w : (Cond.classLink own index C).before a0 Z = true) (eT : T.heap = h) (F : Ins Z h a C true) (d : decode B n = .ok (.checkcast index, 3)) (k : ∀ T', Stand p l e R s m args below meth c T' locs cells slots → T'.heap = h → own_Goes p.tables e below (T'.setTop (mkF m (n + 3) Ls (.ref a :: S))) P) (hq : pc = n := by rfl) : own_Goes p.tables e below (T.setTop (mkF m pc Ls (.ref a :: S))) P := by
  subst hq hB
  exact own_k1 (castY X hx hZ hown w eT F rfl rfl d) rfl k
theorem o_initO (X : Stand p l e R s m args below meth c T locs cells slots) (hx : p.tables.exec = Jvm.exec) (hZ : Z.Warmed39 s.vm) (hB : c.code = B) {own : String} {index ML : Nat} {a : Addr} (hown : s.vm.findClass own = some m.cls) (w1 : (Cond.methodLink own index Lib.objectInit).before a0 Z = true) (w2 : (Cond.instanceMethod Lib.objectInit).before a0 Z = true) (w3 : (Cond.code Lib.objectInit ⟨#[0xb1]⟩ 1 none).before a0 Z = true) (eT : T.heap = h) (hml : c.maxLocals = ML) (hsz : Ls.size = ML) (d : decode B n = .ok (.invokespecial index, 3)) (hf : 1 ≤ R.frames) (hl : 0 + 12 ≤ R.locals) (k : ∀ T', Stand p l e R s m args below meth c T' locs cells slots → T'.heap = h → own_Goes p.tables e below (T'.setTop (mkF m (n + 3) Ls [])) P) (hq : pc = n := by rfl) : own_Goes p.tables e below (T.setTop (mkF m pc Ls [.ref a])) P := by
  subst hq hB
  exact own_k1 (initO X hx hZ hown w1 w2 w3 eT rfl (by rw [hml]; exact hsz) rfl d hf (W := 0) (Nat.le_of_eq rfl) hl) rfl k
theorem o_putF (X : Stand p l e R s m args below meth c T locs cells slots) (hx : p.tables.exec = Jvm.exec) (hZ : Z.Warmed39 s.vm) (hB : c.code = B) {own R0 O nm ds C : String} {index kk : Nat} {ty : FieldType} {a : Addr} {v old : Value} (hown : s.vm.findClass own = some m.cls) (w : ((Cond.fieldLink own index R0 nm ds).before a0 Z = true)) (via : Via Z R0 O nm ds) (eT : T.heap = h) (F : Fld Z h a O nm ds old) (E : Exa Z h a C) (L : (Cond.lays C O nm ds).before a0 Z = true ∨ ((Cond.laysFinal C O nm ds).before a0 Z = true ∧ own = O ∧ meth.name = "<init>")) (wi : (Cond.instantiable C kk).before a0 Z = true) (hty : parseFieldDescriptor ds = some ty) (hn : narrow ty v = v) (hf : fits ty v = true) (d : decode B n = .ok (.putfield index, 3)) (k : ∀ T' h', Stand p l e R s m args below meth c T' (locs ++ [⟨a, Jvm.RoadKit.slotOf Z O nm ds⟩]) cells slots → T'.heap = h' → Wr h h' a (Jvm.RoadKit.slotOf Z O nm ds) v → own_Goes p.tables e below (T'.setTop (mkF m (n + 3) Ls S)) P) (hq : pc = n := by rfl) : own_Goes p.tables e below (T.setTop (mkF m pc Ls (v :: .ref a :: S))) P := by
  subst hq hB
  obtain ⟨T', h', X', q, W, st⟩ := putF X hx hZ hown (host := "") (Or.inl w) via eT F E L wi hty hn hf (g := mkF m pc Ls (v :: .ref a :: S)) rfl rfl d
  exact own_step st (k T' h' X' q W)
theorem o_new (X : Stand p l e R s m args below meth c T locs cells slots) (hx : p.tables.exec = Jvm.exec) (hZ : Z.Warmed39 s.vm) (hB : c.code = B) {own C : String} {index N : Nat} (hown : s.vm.findClass own = some m.cls) (w : (Cond.classLink own index C).before a0 Z = true) (wi : (Cond.instantiable C N).before a0 Z = true) (wz : (Cond.initialized C).before a0 Z = true) (eT : T.heap = h) (d : decode B n = .ok (.new index, 3)) (hc : cells + 1 ≤ R.cells) (hl : slots + N ≤ R.slots) (k : ∀ T' h' a, a = h.size → Stand p l e R s m args below meth c T' locs (cells + 1) (slots + N) → T'.heap = h' → Ext h h' → Exa Z h' a C → (∀ {O nm ds : String} {ty : FieldType}, Laid Z a0 C O nm ds → parseFieldDescriptor ds = some ty → Fld Z h' a O nm ds (defaultValue ty)) → own_Goes p.tables e below (T'.setTop (mkF m (n + 3) Ls (.ref a :: S))) P) (hq : pc = n := by rfl) : own_Goes p.tables e below (T.setTop (mkF m pc Ls S)) P := by
  subst hq hB
  obtain ⟨T', h', X', q, E, A, D, -, st⟩ := newO X hx hZ hown w wi wz eT (g := mkF m pc Ls S) rfl d hc hl
  exact own_step st (k T' h' _ rfl X' q E A D)
abbrev own_Met (l : Launch) (y : MethodName) (cd : Jvm.Cond) (ws : List Jvm.Cond) (rm : Room) (ar : Array Value) (Z : State) (h : Heap) (Q : Option Value → Heap → List Loc → Prop) (C K : Nat) : Prop := MetFree l y (head1 (cd :: ws) rm) (fun a U => a = ar ∧ Z.Warmed39 U.vm ∧ U.heap = h) (fun _ _ _ _ _ => True) (fun _ U o U' => ∃ v L, o = .returned v ∧ Q v U'.heap L ∧ FrameEnd U o U' L C K)
def own_Res (p : Program) (l : Launch) (e : Env) (R : Room) (s : State) (m : MethodId) (args : Array Value) (below : List Frame) (meth : Method) (c : Code) (T : State) (g : JFrame) (n : Nat) (rest : List Value) (locs : List Loc) (cells slots : Nat) (rm : Room) (Q : Option Value → Heap → List Loc → Prop) : Prop :=
  ∃ v T' L, Q v T'.heap L ∧ Stand p l e R s m args below meth c T' (locs ++ L) (cells + rm.cells) (slots + rm.slots) ∧ ∀ target, Steps p.tables e below (T'.setTop { g with pc := g.pc + n, stack := v.toList ++ rest }) target → Steps p.tables e below (T.setTop g) target
theorem own_kP {w : Value} {k : Nat} (H : own_Res p l e R s m args below meth c T (mkF m pc Ls S) k rest locs cells slots rm (own_Qp (some w) h)) (q0 : rm.cells = 0) (q1 : rm.slots = 0) (K : ∀ T', Stand p l e R s m args below meth c T' locs cells slots → T'.heap = h → own_Goes p.tables e below (T'.setTop (mkF m (pc + k) Ls (w :: rest))) P) : own_Goes p.tables e below (T.setTop (mkF m pc Ls S)) P := by
  obtain ⟨v, T', L, ⟨rfl, rfl, q⟩, X, st⟩ := H
  rw [q0, q1] at X
  exact own_step st (K T' (own_flat X) q)
theorem own_kP0 {k : Nat} (H : own_Res p l e R s m args below meth c T (mkF m pc Ls S) k rest locs cells slots rm (own_Qp none h)) (q0 : rm.cells = 0) (q1 : rm.slots = 0) (K : ∀ T', Stand p l e R s m args below meth c T' locs cells slots → T'.heap = h → own_Goes p.tables e below (T'.setTop (mkF m (pc + k) Ls rest)) P) : own_Goes p.tables e below (T.setTop (mkF m pc Ls S)) P := by
  obtain ⟨v, T', L, ⟨rfl, rfl, q⟩, X, st⟩ := H
  rw [q0, q1] at X
  exact own_step st (K T' (own_flat X) q)
theorem own_kQ {k : Nat} {Q : Option Value → Heap → List Loc → Prop} (H : own_Res p l e R s m args below meth c T (mkF m pc Ls S) k rest locs cells slots rm Q) (K : ∀ v T' L, Q v T'.heap L → Stand p l e R s m args below meth c T' (locs ++ L) (cells + rm.cells) (slots + rm.slots) → own_Goes p.tables e below (T'.setTop (mkF m (pc + k) Ls (v.toList ++ rest))) P) : own_Goes p.tables e below (T.setTop (mkF m pc Ls S)) P := by
  obtain ⟨v, T', L, q, X, st⟩ := H
  exact own_step st (K v T' L q X)
theorem own_cst (X : Stand p l e R s m args below meth c T locs cells slots) (hx : p.tables.exec = Jvm.exec) (hZ : Z.Warmed39 s.vm) (hB : c.code = B) {own : String} {index maxL ML W : Nat} {y : MethodName} {bytes : ByteArray} {ret : Option FieldType} {Q : Option Value → Heap → List Loc → Prop} {argsL : List Value} {ps : List FieldType} {rt : Option FieldType} (hown : s.vm.findClass own = some m.cls) (w1 : (Cond.methodLink own index y).before a0 Z = true) (w2 : (Cond.static y).before a0 Z = true) (w5 : (Jvm.Cond.code y bytes maxL ret).before a0 Z = true) (w6 : (Cond.initialized y.cls).before a0 Z = true) (hy : y.cls ≠ "java/lang/invoke/MethodHandle" ∧ y.cls ≠ "java/lang/invoke/VarHandle") (hM : own_Met l y (Jvm.Cond.code y bytes maxL ret) [] rm argsL.toArray Z h Q rm.cells rm.slots) (hf : rm.frames + 1 ≤ R.frames) (hl : W + (maxL + 11) + rm.locals ≤ R.locals) (eT : T.heap = h) (hml : c.maxLocals = ML) (hsz : Ls.size = ML) (hlen : parseMethodDescriptor y.desc = some ⟨ps, rt⟩) (hll : argsL.length = ps.length) (hs : S = argsL.reverse ++ rest) (hW : (rest.map fun v => v.category).sum = W) (d : decode B n = .ok (.invokestatic index, 3)) (hc : cells + rm.cells ≤ R.cells) (hk : slots + rm.slots ≤ R.slots) (hq : pc = n := by rfl) : own_Res p l e R s m args below meth c T (mkF m pc Ls S) 3 rest locs cells slots rm Q := by
  subst hq hB
  obtain ⟨v, vm₁, ⟨U, L, kk, nn⟩, -, X', ⟨Lc, hQ, l1, y1, z1⟩, st⟩ := Jvm.LawKit.callS X hx (y := y) hown (mvT hZ w1) (mvT hZ w2) (mvT hZ w6) (mvT hZ w5) hy (backOf (W := W) hM hZ w5 w6 hf hl) (g := mkF m pc Ls S) rfl (by rw [hml]; exact hsz) (lenOf hlen hll) hs (by show 2 * 0 + _ ≤ _; omega) d (fun _ _ => ⟨rfl, eT, hc, hk⟩)
  dsimp only at X' l1 y1 z1 st hQ
  subst l1 y1 z1
  exact ⟨v, U, Lc, hQ, X', st⟩
theorem own_csp (X : Stand p l e R s m args below meth c T locs cells slots) (hx : p.tables.exec = Jvm.exec) (hZ : Z.Warmed39 s.vm) (hB : c.code = B) {own : String} {index maxL ML W : Nat} {y : MethodName} {bytes : ByteArray} {Q : Option Value → Heap → List Loc → Prop} {argsL : List Value} {ps : List FieldType} {rt : Option FieldType} {b : Addr} (hown : s.vm.findClass own = some m.cls) (hi : y.name = "<init>") (w1 : (Cond.methodLink own index y).before a0 Z = true) (w2 : (Cond.instanceMethod y).before a0 Z = true) (w5 : (Jvm.Cond.code y bytes maxL none).before a0 Z = true) (w6 : (Cond.initialized y.cls).before a0 Z = true) (hy : y.cls ≠ "java/lang/invoke/MethodHandle" ∧ y.cls ≠ "java/lang/invoke/VarHandle") (hM : own_Met l y (Jvm.Cond.code y bytes maxL none) [] rm (.ref b :: argsL).toArray Z h Q rm.cells rm.slots) (hf : rm.frames + 1 ≤ R.frames) (hl : W + (maxL + 11) + rm.locals ≤ R.locals) (eT : T.heap = h) (hml : c.maxLocals = ML) (hsz : Ls.size = ML) (hlen : parseMethodDescriptor y.desc = some ⟨ps, rt⟩) (hll : argsL.length = ps.length) (hs : S = argsL.reverse ++ .ref b :: rest) (hW : (rest.map fun v => v.category).sum = W) (d : decode B n = .ok (.invokespecial index, 3)) (hc : cells + rm.cells ≤ R.cells) (hk : slots + rm.slots ≤ R.slots) (hq : pc = n := by rfl) : own_Res p l e R s m args below meth c T (mkF m pc Ls S) 3 rest locs cells slots rm Q := by
  subst hq hB
  obtain ⟨v, vm₁, ⟨U, L, kk, nn⟩, -, X', ⟨Lc, hQ, l1, y1, z1⟩, st⟩ := X.specialBack hx (y := y) hi hown (mvT hZ w1) (mvT hZ w2) (mvT hZ w5) hy (backOf (W := W) hM hZ w5 w6 hf hl) (g := mkF m pc Ls S) rfl (by rw [hml]; exact hsz) (Steps.refl _) (lenOf hlen hll) hs (by show 2 * 0 + _ ≤ _; omega) d (fun _ _ => ⟨rfl, eT, hc, hk⟩)
  dsimp only at X' l1 y1 z1 st hQ
  subst l1 y1 z1
  exact ⟨v, U, Lc, hQ, X', fun _ k => st.trans k⟩
theorem own_csr (X : Stand p l e R s m args below meth c T locs cells slots) (hx : p.tables.exec = Jvm.exec) (hZ : Z.Warmed39 s.vm) (hB : c.code = B) {own : String} {index maxL ML W : Nat} {y : MethodName} {bytes : ByteArray} {Q : Option Value → Heap → List Loc → Prop} {argsL : List Value} {ps : List FieldType} {rt : Option FieldType} {b : Addr} (hown : s.vm.findClass own = some m.cls) (hi : y.name = "<init>") (w1 : (Cond.methodRef own index y).before a0 Z = true) (w2 : (Cond.instanceMethod y).before a0 Z = true) (w5 : (Jvm.Cond.code y bytes maxL none).before a0 Z = true) (w6 : (Cond.initialized y.cls).before a0 Z = true) (hy : y.cls ≠ "java/lang/invoke/MethodHandle" ∧ y.cls ≠ "java/lang/invoke/VarHandle") (hM : own_Met l y (Jvm.Cond.code y bytes maxL none) [] rm (.ref b :: argsL).toArray Z h Q rm.cells rm.slots) (hf : rm.frames + 1 ≤ R.frames) (hl : W + (maxL + 11) + rm.locals ≤ R.locals) (eT : T.heap = h) (hml : c.maxLocals = ML) (hsz : Ls.size = ML) (hlen : parseMethodDescriptor y.desc = some ⟨ps, rt⟩) (hll : argsL.length = ps.length) (hs : S = argsL.reverse ++ .ref b :: rest) (hW : (rest.map fun v => v.category).sum = W) (d : decode B n = .ok (.invokespecial index, 3)) (hc : cells + rm.cells ≤ R.cells) (hk : slots + rm.slots ≤ R.slots) (hq : pc = n := by rfl) : own_Res p l e R s m args below meth c T (mkF m pc Ls S) 3 rest locs cells slots rm Q := by
  subst hq hB
  obtain ⟨v, vm₁, ⟨U, L, kk, nn⟩, -, X', ⟨Lc, hQ, l1, y1, z1⟩, st⟩ := own_specialRef X hx (y := y) hi hown (own_mvRef hZ hy w2 w1) (mvT hZ w2) (mvT hZ w5) hy (backOf (W := W) hM hZ w5 w6 hf hl) (g := mkF m pc Ls S) rfl (by rw [hml]; exact hsz) (Steps.refl _) (lenOf hlen hll) hs (by show 2 * 0 + _ ≤ _; omega) d (fun _ _ => ⟨rfl, eT, hc, hk⟩)
  dsimp only at X' l1 y1 z1 st hQ
  subst l1 y1 z1
  exact ⟨v, U, Lc, hQ, X', fun _ k => st.trans k⟩
theorem own_cif (X : Stand p l e R s m args below meth c T locs cells slots) (hx : p.tables.exec = Jvm.exec) (hZ : Z.Warmed39 s.vm) (hB : c.code = B) {own : String} {index maxL ML W : Nat} {y z : MethodName} {bytes : ByteArray} {ret : Option FieldType} {Q : Option Value → Heap → List Loc → Prop} {argsL : List Value} {ps : List FieldType} {rt : Option FieldType} {b : Addr} {C : String} {count : Nat} (hown : s.vm.findClass own = some m.cls) (w1 : (Cond.methodLink own index y).before a0 Z = true) (w2 : (Cond.declares y).before a0 Z = true) (w3 : (Cond.interfaceMethod y.cls y.cls y.name y.desc).before a0 Z = true) (w4 : (Cond.selects C y z).before a0 Z = true) (w7 : (Cond.instanceMethod z).before a0 Z = true) (w8 : (Cond.publicMethod z).before a0 Z = true) (w9 : (Cond.unhidden C y.name y.desc).before a0 Z = true) (w10 : (Cond.castable C y.cls).before a0 Z = true) (w5 : (Jvm.Cond.code z bytes maxL ret).before a0 Z = true) (w6 : (Cond.initialized z.cls).before a0 Z = true) (hy : y.cls ≠ "java/lang/invoke/MethodHandle" ∧ y.cls ≠ "java/lang/invoke/VarHandle") (hM : own_Met l z (Jvm.Cond.code z bytes maxL ret) [] rm (.ref b :: argsL).toArray Z h Q rm.cells rm.slots) (hf : rm.frames + 1 ≤ R.frames) (hl : W + (maxL + 11) + rm.locals ≤ R.locals) (eT : T.heap = h) (E : Exa Z h b C) (hml : c.maxLocals = ML) (hsz : Ls.size = ML) (hlen : parseMethodDescriptor y.desc = some ⟨ps, rt⟩) (hll : argsL.length = ps.length) (hs : S = argsL.reverse ++ .ref b :: rest) (hW : (rest.map fun v => v.category).sum = W) (d : decode B n = .ok (.invokeinterface index count, 5)) (hc : cells + rm.cells ≤ R.cells) (hk : slots + rm.slots ≤ R.slots) (hq : pc = n := by rfl) : own_Res p l e R s m args below meth c T (mkF m pc Ls S) 5 rest locs cells slots rm Q := by
  subst hq hB
  obtain ⟨cq, kq, qa, qb, qc⟩ := isOf hZ eT E
  obtain ⟨v, vm₁, ⟨U, L, kk, nn⟩, -, X', ⟨Lc, hQ, l1, y1, z1⟩, st⟩ := X.interfaceBack hx (xi := y) (y := z) hown (mvT hZ w1) (mvT hZ w2) (own_mvFace hZ w3) (mvT hZ w4) (mvT hZ w7) (mvT hZ w8) (mvT hZ w9) (mvT hZ w10) hy (backOf (W := W) hM hZ w5 w6 hf hl) qa qb qc (g := mkF m pc Ls S) rfl (by rw [hml]; exact hsz) (Steps.refl _) (lenOf hlen hll) hs (by show 2 * 0 + _ ≤ _; omega) d (fun _ _ => ⟨rfl, eT, hc, hk⟩)
  dsimp only at X' l1 y1 z1 st hQ
  subst l1 y1 z1
  exact ⟨v, U, Lc, hQ, X', fun _ k => st.trans k⟩
theorem own_ciu (X : Stand p l e R s m args below meth c T locs cells slots) (hx : p.tables.exec = Jvm.exec) (hZ : Z.Warmed39 s.vm) (hB : c.code = B) {own : String} {index maxL ML W : Nat} {y z : MethodName} {bytes : ByteArray} {ret : Option FieldType} {Q : Option Value → Heap → List Loc → Prop} {argsL : List Value} {ps : List FieldType} {rt : Option FieldType} {b : Addr} {C J : String} {count : Nat} (hown : s.vm.findClass own = some m.cls) (w1 : (Cond.methodLink own index y).before a0 Z = true) (w2 : (Cond.declares ⟨J, y.name, y.desc⟩).before a0 Z = true) (w3 : (Cond.interfaceMethod y.cls J y.name y.desc).before a0 Z = true) (hJ : y.cls ≠ J) (hcl : y.name ≠ "clone") (w4 : (Cond.selects C y z).before a0 Z = true) (w7 : (Cond.instanceMethod z).before a0 Z = true) (w8 : (Cond.publicMethod z).before a0 Z = true) (w9 : (Cond.unhidden C y.name y.desc).before a0 Z = true) (w10 : (Cond.castable C y.cls).before a0 Z = true) (w5 : (Jvm.Cond.code z bytes maxL ret).before a0 Z = true) (w6 : (Cond.initialized z.cls).before a0 Z = true) (hy : y.cls ≠ "java/lang/invoke/MethodHandle" ∧ y.cls ≠ "java/lang/invoke/VarHandle") (hM : own_Met l z (Jvm.Cond.code z bytes maxL ret) [] rm (.ref b :: argsL).toArray Z h Q rm.cells rm.slots) (hf : rm.frames + 1 ≤ R.frames) (hl : W + (maxL + 11) + rm.locals ≤ R.locals) (eT : T.heap = h) (E : Exa Z h b C) (hml : c.maxLocals = ML) (hsz : Ls.size = ML) (hlen : parseMethodDescriptor y.desc = some ⟨ps, rt⟩) (hll : argsL.length = ps.length) (hs : S = argsL.reverse ++ .ref b :: rest) (hW : (rest.map fun v => v.category).sum = W) (d : decode B n = .ok (.invokeinterface index count, 5)) (hc : cells + rm.cells ≤ R.cells) (hk : slots + rm.slots ≤ R.slots) (hq : pc = n := by rfl) : own_Res p l e R s m args below meth c T (mkF m pc Ls S) 5 rest locs cells slots rm Q := by
  subst hq hB
  obtain ⟨cq, kq, qa, qb, qc⟩ := isOf hZ eT E
  obtain ⟨v, vm₁, ⟨U, L, kk, nn⟩, -, X', ⟨Lc, hQ, l1, y1, z1⟩, st⟩ := own_ifaceUp X hx (xi := y) (y := z) (J := J) hown (mvT hZ w1) (mvT hZ w2) (own_mvFace hZ w3) hJ hcl (mvT hZ w4) (mvT hZ w7) (mvT hZ w8) (mvT hZ w9) (mvT hZ w10) hy (backOf (W := W) hM hZ w5 w6 hf hl) qa qb qc (g := mkF m pc Ls S) rfl (by rw [hml]; exact hsz) (Steps.refl _) (lenOf hlen hll) hs (by show 2 * 0 + _ ≤ _; omega) d (fun _ _ => ⟨rfl, eT, hc, hk⟩)
  dsimp only at X' l1 y1 z1 st hQ
  subst l1 y1 z1
  exact ⟨v, U, Lc, hQ, X', fun _ k => st.trans k⟩
theorem own_cpv (X : Stand p l e R s m args below meth c T locs cells slots) (hx : p.tables.exec = Jvm.exec) (hZ : Z.Warmed39 s.vm) (hB : c.code = B) {own : String} {index maxL ML W : Nat} {y : MethodName} {bytes : ByteArray} {ret : Option FieldType} {Q : Option Value → Heap → List Loc → Prop} {argsL : List Value} {ps : List FieldType} {rt : Option FieldType} {b : Addr} {C : String} (hown : s.vm.findClass own = some m.cls) (w1 : (Cond.methodLink own index y).before a0 Z = true) (w2 : (Cond.instanceMethod y).before a0 Z = true) (w3 : (Cond.selects y.cls y y).before a0 Z = true) (w4 : (Cond.privateMethod y).before a0 Z = true) (w5 : (Jvm.Cond.code y bytes maxL ret).before a0 Z = true) (w6 : (Cond.initialized y.cls).before a0 Z = true) (hy : y.cls ≠ "java/lang/invoke/MethodHandle" ∧ y.cls ≠ "java/lang/invoke/VarHandle") (hM : own_Met l y (Jvm.Cond.code y bytes maxL ret) [] rm (.ref b :: argsL).toArray Z h Q rm.cells rm.slots) (hf : rm.frames + 1 ≤ R.frames) (hl : W + (maxL + 11) + rm.locals ≤ R.locals) (eT : T.heap = h) (E : Exa Z h b C) (hml : c.maxLocals = ML) (hsz : Ls.size = ML) (hlen : parseMethodDescriptor y.desc = some ⟨ps, rt⟩) (hll : argsL.length = ps.length) (hs : S = argsL.reverse ++ .ref b :: rest) (hW : (rest.map fun v => v.category).sum = W) (d : decode B n = .ok (.invokevirtual index, 3)) (hc : cells + rm.cells ≤ R.cells) (hk : slots + rm.slots ≤ R.slots) (hq : pc = n := by rfl) : own_Res p l e R s m args below meth c T (mkF m pc Ls S) 3 rest locs cells slots rm Q := by
  subst hq hB
  obtain ⟨cq, q1, q2⟩ := E.cell
  obtain ⟨v, vm₁, ⟨U, L, kk, nn⟩, -, X', ⟨Lc, hQ, l1, y1, z1⟩, st⟩ := X.privateBack hx (y := y) hown (mvT hZ w1) (mvT hZ w2) (mvT hZ w3) (Cond.privateMethod_at (mvP hZ w4 (args := #[]))) (mvT hZ w5) hy (backOf (W := W) hM hZ w5 w6 hf hl) (g := mkF m pc Ls S) rfl (by rw [hml]; exact hsz) (Steps.refl _) (by rw [eT]; exact q1) q2 (lenOf hlen hll) hs (by show 2 * 0 + _ ≤ _; omega) d (fun _ _ => ⟨rfl, eT, hc, hk⟩)
  dsimp only at X' l1 y1 z1 st hQ
  subst l1 y1 z1
  exact ⟨v, U, Lc, hQ, X', fun _ k => st.trans k⟩
theorem own_cvi (X : Stand p l e R s m args below meth c T locs cells slots) (hx : p.tables.exec = Jvm.exec) (hZ : Z.Warmed39 s.vm) (hB : c.code = B) {own : String} {index maxL ML W : Nat} {y : MethodName} {bytes : ByteArray} {ret : Option FieldType} {Q : Option Value → Heap → List Loc → Prop} {argsL : List Value} {ps : List FieldType} {rt : Option FieldType} {b : Addr} {C : String} (hown : s.vm.findClass own = some m.cls) (w1 : (Cond.methodLink own index y).before a0 Z = true) (w2 : (Cond.declares y).before a0 Z = true) (w3 : (Cond.selects C y y).before a0 Z = true) (w4 : (Cond.instanceMethod y).before a0 Z = true) (w5 : (Jvm.Cond.code y bytes maxL ret).before a0 Z = true) (w6 : (Cond.initialized y.cls).before a0 Z = true) (hy : y.cls ≠ "java/lang/invoke/MethodHandle" ∧ y.cls ≠ "java/lang/invoke/VarHandle") (hM : own_Met l y (Jvm.Cond.code y bytes maxL ret) [] rm (.ref b :: argsL).toArray Z h Q rm.cells rm.slots) (hf : rm.frames + 1 ≤ R.frames) (hl : W + (maxL + 11) + rm.locals ≤ R.locals) (eT : T.heap = h) (E : Exa Z h b C) (hml : c.maxLocals = ML) (hsz : Ls.size = ML) (hlen : parseMethodDescriptor y.desc = some ⟨ps, rt⟩) (hll : argsL.length = ps.length) (hs : S = argsL.reverse ++ .ref b :: rest) (hW : (rest.map fun v => v.category).sum = W) (d : decode B n = .ok (.invokevirtual index, 3)) (hc : cells + rm.cells ≤ R.cells) (hk : slots + rm.slots ≤ R.slots) (hq : pc = n := by rfl) : own_Res p l e R s m args below meth c T (mkF m pc Ls S) 3 rest locs cells slots rm Q := by
  subst hq hB
  obtain ⟨cq, kq, qa, qb, qc⟩ := isOf hZ eT E
  obtain ⟨v, vm₁, ⟨U, L, kk, nn⟩, -, X', ⟨Lc, hQ, l1, y1, z1⟩, st⟩ := X.virtualBack hx (y := y) (z := y) hown (mvT hZ w1) (mvT hZ w2) (notFace_of_selects (args := #[]) (mvT hZ w3)) (mvT hZ w3) (mvT hZ w4) hy (backOf (W := W) hM hZ w5 w6 hf hl) qa qc (g := mkF m pc Ls S) rfl (by rw [hml]; exact hsz) (Steps.refl _) (lenOf hlen hll) hs (by show 2 * 0 + _ ≤ _; omega) d (fun _ _ => ⟨rfl, eT, hc, hk⟩)
  dsimp only at X' l1 y1 z1 st hQ
  subst l1 y1 z1
  exact ⟨v, U, Lc, hQ, X', fun _ k => st.trans k⟩
theorem own_zO {n0 : Nat} (O : Old Z n0 h) : n0 ≤ h.size := O.1 ▸ O.2.1
theorem own_gn {n0 : Nat} {a : Addr} (O : Old Z n0 h) (g : a = h.size) : n0 ≤ a := g ▸ own_zO O
theorem own_gz {h0 : Heap} {ws : List Addr} {a : Addr} (K : Keep h0 h ws) (g : a = h.size) : h0.size ≤ a := g ▸ K.1
theorem own_ne1 {a b : Addr} (q : b < h.size) (g : a = h.size) : b ≠ a := Nat.ne_of_lt (Nat.lt_of_lt_of_le q (Nat.le_of_eq g.symm))
theorem own_ne2 {a b : Addr} (q : b < h.size) (g : h.size ≤ a) : b ≠ a := Nat.ne_of_lt (Nat.lt_of_lt_of_le q g)
end OwnGoes
def own_G (Z : State) (dc : Addr) (kd : ClassId) (cr : Addr) (cc : Cell) (mr : Addr) : Prop := Sta Z Z.heap "java/util/ArrayList" "DEFAULTCAPACITY_EMPTY_ELEMENTDATA" "[Ljava/lang/Object;" (.ref dc) ∧ own_AR Z Z.heap dc kd (0 : Int32) [] ∧ Sta Z Z.heap "java/lang/Integer$IntegerCache" "high" "I" (.int (127 : Int32)) ∧ Sta Z Z.heap "java/lang/Integer$IntegerCache" "cache" "[Ljava/lang/Integer;" (.ref cr) ∧ Bxs Z cr cc "java/lang/Integer" "I" (256 : Int32) (fun j => .int (j - (128 : Int32))) ∧ own_Mir Z "[Ljava/lang/Object;" mr ∧ True
theorem own_neEA {Z : State} {h : Heap} {x b : Addr} {C : String} {k : ClassId} {n : Int32} {vs : List Value} (E : Exa Z h x C) (V : own_AR Z h b k n vs) (q : C ≠ "[Ljava/lang/Object;") : x ≠ b := Exa.ne E V.2.2.2 q
theorem own_p0 {a b : Nat} (h : a ≤ b) : (0 : Int32).toNatClampNeg + a ≤ b := by rw [show (0 : Int32).toNatClampNeg = 0 from rfl, Nat.zero_add]; exact h
theorem own_cp0 (n : Int32) (us : List Value) : (List.replicate n.toNatClampNeg Value.null).take (0 : Int32).toNatClampNeg ++ us ++ (List.replicate n.toNatClampNeg Value.null).drop ((0 : Int32).toNatClampNeg + n.toNatClampNeg) = us := by
  rw [show (0 : Int32).toNatClampNeg = 0 from rfl]; simp
theorem own_cpf (n : Int32) (us : List Value) : (List.replicate 10 Value.null).take (0 : Int32).toNatClampNeg ++ us ++ (List.replicate 10 Value.null).drop ((0 : Int32).toNatClampNeg + n.toNatClampNeg) = us ++ List.replicate (10 - n.toNatClampNeg) Value.null := by
  rw [show (0 : Int32).toNatClampNeg = 0 from rfl, List.take_zero, List.nil_append, Nat.zero_add, List.drop_replicate]
theorem own_self {us : List Value} {N : Nat} (h : us.length = N) : us = (List.range N).map fun i => us.getD ((0 : Int32).toNatClampNeg + i) Value.null := by
  rw [show (0 : Int32).toNatClampNeg = 0 from rfl]
  apply List.ext_getElem
  · simp [h]
  · intro i h1 h2
    simp [List.getD_eq_getElem?_getD, List.getElem?_eq_getElem h1]
theorem own_hI {Z : State} {n0 : Nat} {h : Heap} {a0 : Array Value} {us : List Value} (hI : ∀ u ∈ us, ∃ y, u = Value.ref y ∧ Exa Z Z.heap y "java/lang/Integer") (hO : Old Z n0 h) (w : (Jvm.Cond.castable "java/lang/Integer" "java/lang/Object").before a0 Z = true) : ∀ u ∈ us, u = Value.null ∨ ∃ y, u = Value.ref y ∧ Ins Z h y "java/lang/Object" true := fun u hu => by
  obtain ⟨y, rfl, E⟩ := hI u hu
  exact Or.inr ⟨y, rfl, Ins.of_exa (Exa.ext hO.2 E) w⟩
theorem own_castI {Z : State} {h : Heap} {x : Addr} {C f d : String} {i j : Int32} (q : i = j) (F : Fld Z h x C f d (.int i)) : Fld Z h x C f d (.int j) := q ▸ F
theorem own_castA {Z : State} {h : Heap} {x : Addr} {k : ClassId} {n : Int32} {vs us : List Value} (q : vs = us) (V : own_AR Z h x k n vs) : own_AR Z h x k n us := q ▸ V
def own_p (N : Nat) (xs : List Value) : List Value := xs ++ List.replicate (N - xs.length) .null
theorem own_nI {Z : State} : ∀ u ∈ ([] : List Value), ∃ y, u = Value.ref y ∧ Exa Z Z.heap y "java/lang/Integer" := fun u hu => by cases hu
theorem own_cI {Z : State} {y : Addr} {us : List Value} (E : Exa Z Z.heap y "java/lang/Integer") (q : ∀ u ∈ us, ∃ y, u = Value.ref y ∧ Exa Z Z.heap y "java/lang/Integer") : ∀ u ∈ Value.ref y :: us, ∃ y, u = Value.ref y ∧ Exa Z Z.heap y "java/lang/Integer" := fun u hu => by
  rcases List.mem_cons.mp hu with rfl | hu
  · exact ⟨y, rfl, E⟩
  · exact q u hu
theorem own_mx (x : Int64) : ¬ ((9223372036854775807 : Int64) < x) := by
  rw [Int64.lt_iff_toInt_lt]
  have := x.toInt_lt
  rw [show (9223372036854775807 : Int64).toInt = 9223372036854775807 from rfl]
  omega

theorem d3_0 : decode jdk_22_method_1_code 0 = .ok (.aload_n 0, 1) := by decide +kernel
theorem d3_1 : decode jdk_22_method_1_code 1 = .ok (.invokespecial 1, 3) := by decide +kernel
theorem d3_4 : decode jdk_22_method_1_code 4 = .ok (.return_, 1) := by decide +kernel
theorem pn_3 : plainName "java/util/AbstractCollection" = true := by first | (simp [plainName, overriddenIn]; done) | decide +kernel
theorem ef_3 (m : MethodId) (a : Addr) : entryFrame m #[(.ref a)] 1 = mkF m 0 #[.val (.ref a)] [] := by first | (simp [entryFrame, mkF, argsToLocals, Value.category]; done) | rfl
abbrev own_room_3 : Room := { frames := 1, cells := 0, slots := 0, locals := 12 }
set_option maxRecDepth 65536 in
set_option maxHeartbeats 40000000 in
theorem rm_3 (l : Launch) (Z : State) (a0 : Array Value) (hw : own_Hw a0 Z) (ws : List Jvm.Cond) (dc : Addr) (kd : ClassId) (cr : Addr) (cc : Cell) (mr : Addr) (hG : own_G Z dc kd cr cc mr) (a : Addr) (h0 : Heap) (n0 : Nat) (Z0 : n0 ≤ h0.size) (hO : Old Z n0 h0) :
    own_Met l (⟨"java/util/AbstractCollection", "<init>", "()V"⟩ : MethodName) (Jvm.Cond.code (⟨"java/util/AbstractCollection", "<init>", "()V"⟩ : MethodName) jdk_22_method_1_code 1 none) ws own_room_3 #[(.ref a)] Z h0 (own_Qp none h0) own_room_3.cells own_room_3.slots := by
  refine MetFree.of_bodySF (plainFor_of_name pn_3) hisR ?_
  intro p e s m args below meth c T Bd hml0 hP hK
  obtain ⟨rfl, hZ, hh⟩ := hP
  obtain ⟨hx, hB⟩ := And.intro Bd.exec Bd.bytes
  have hml : c.maxLocals = 1 := hml0
  have hown : s.vm.findClass "java/util/AbstractCollection" = some m.cls := findClass_of_methodNamed Bd.named
  have hnm := (name_of_methodNamed Bd.named Bd.method).1
  have X : Stand p l e own_room_3 s m #[(.ref a)] below meth c T [] 0 0 := Stand.of_body Bd
  have eT : T.heap = h0 := by rw [← hh, Bd.state]; rfl
  have W := @own_Wd a0 Z hw
  have N := Fr.nil n0
  have O := hO
  refine own_enter (ef_3 m a) ?_
  show own_Goes _ _ _ _ (own_P s (own_Qp none h0) own_room_3.cells own_room_3.slots)
  refine o_aloadN X hx hB d3_0 rfl rfl ?_
  refine o_initO X hx hZ hB hown (W 18 rfl) (W 19 rfl) (W 20 rfl) eT hml rfl d3_1 (by decide) (by decide) fun T X eT => ?_
  exact own_retV X hx Bd.returns (hb hB d3_4) (BodyLoose.notSynchronized Bd) ⟨rfl, rfl, eT⟩ (by decide) (by decide)
theorem d15_0 : decode jdk_30_method_1_code 0 = .ok (.aload_n 0, 1) := by decide +kernel
theorem d15_1 : decode jdk_30_method_1_code 1 = .ok (.invokespecial 1, 3) := by decide +kernel
theorem d15_4 : decode jdk_30_method_1_code 4 = .ok (.return_, 1) := by decide +kernel
theorem pn_15 : plainName "java/lang/Record" = true := by first | (simp [plainName, overriddenIn]; done) | decide +kernel
theorem ef_15 (m : MethodId) (a : Addr) : entryFrame m #[(.ref a)] 1 = mkF m 0 #[.val (.ref a)] [] := by first | (simp [entryFrame, mkF, argsToLocals, Value.category]; done) | rfl
abbrev own_room_15 : Room := { frames := 1, cells := 0, slots := 0, locals := 12 }
set_option maxRecDepth 65536 in
set_option maxHeartbeats 40000000 in
theorem rm_15 (l : Launch) (Z : State) (a0 : Array Value) (hw : own_Hw a0 Z) (ws : List Jvm.Cond) (dc : Addr) (kd : ClassId) (cr : Addr) (cc : Cell) (mr : Addr) (hG : own_G Z dc kd cr cc mr) (a : Addr) (h0 : Heap) (n0 : Nat) (Z0 : n0 ≤ h0.size) (hO : Old Z n0 h0) :
    own_Met l (⟨"java/lang/Record", "<init>", "()V"⟩ : MethodName) (Jvm.Cond.code (⟨"java/lang/Record", "<init>", "()V"⟩ : MethodName) jdk_30_method_1_code 1 none) ws own_room_15 #[(.ref a)] Z h0 (own_Qp none h0) own_room_15.cells own_room_15.slots := by
  refine MetFree.of_bodySF (plainFor_of_name pn_15) hisR ?_
  intro p e s m args below meth c T Bd hml0 hP hK
  obtain ⟨rfl, hZ, hh⟩ := hP
  obtain ⟨hx, hB⟩ := And.intro Bd.exec Bd.bytes
  have hml : c.maxLocals = 1 := hml0
  have hown : s.vm.findClass "java/lang/Record" = some m.cls := findClass_of_methodNamed Bd.named
  have hnm := (name_of_methodNamed Bd.named Bd.method).1
  have X : Stand p l e own_room_15 s m #[(.ref a)] below meth c T [] 0 0 := Stand.of_body Bd
  have eT : T.heap = h0 := by rw [← hh, Bd.state]; rfl
  have W := @own_Wd a0 Z hw
  have N := Fr.nil n0
  have O := hO
  refine own_enter (ef_15 m a) ?_
  show own_Goes _ _ _ _ (own_P s (own_Qp none h0) own_room_15.cells own_room_15.slots)
  refine o_aloadN X hx hB d15_0 rfl rfl ?_
  refine o_initO X hx hZ hB hown (W 104 rfl) (W 19 rfl) (W 20 rfl) eT hml rfl d15_1 (by decide) (by decide) fun T X eT => ?_
  exact own_retV X hx Bd.returns (hb hB d15_4) (BodyLoose.notSynchronized Bd) ⟨rfl, rfl, eT⟩ (by decide) (by decide)
theorem d2_0 : decode jdk_39_method_1_code 0 = .ok (.aload_n 0, 1) := by decide +kernel
theorem d2_1 : decode jdk_39_method_1_code 1 = .ok (.invokespecial 1, 3) := by decide +kernel
theorem d2_4 : decode jdk_39_method_1_code 4 = .ok (.aload_n 0, 1) := by decide +kernel
theorem d2_5 : decode jdk_39_method_1_code 5 = .ok (.iconst 0, 1) := by decide +kernel
theorem d2_6 : decode jdk_39_method_1_code 6 = .ok (.putfield 7, 3) := by decide +kernel
theorem d2_9 : decode jdk_39_method_1_code 9 = .ok (.return_, 1) := by decide +kernel
theorem pd_0 : parseMethodDescriptor "()V" = some ⟨[], none⟩ := by decide +kernel
theorem pn_2 : plainName "java/util/AbstractList" = true := by first | (simp [plainName, overriddenIn]; done) | decide +kernel
theorem ef_2 (m : MethodId) (a : Addr) : entryFrame m #[(.ref a)] 1 = mkF m 0 #[.val (.ref a)] [] := by first | (simp [entryFrame, mkF, argsToLocals, Value.category]; done) | rfl
abbrev own_room_2 : Room := { frames := 2, cells := 0, slots := 0, locals := 24 }
def own_Q_2 (Z : State) (dc : Addr) (kd : ClassId) (cr : Addr) (cc : Cell) (mr : Addr) (a : Addr) (u z : Int32) (h0 : Heap) (n0 : Nat) (v : Option Value) (h : Heap) (L : List Loc) : Prop := v = none ∧ Fr n0 L ∧ Keep h0 h [a] ∧ Exa Z h a "java/util/ArrayList" ∧ Fld Z h a "java/util/AbstractList" "modCount" "I" (.int (0 : Int32)) ∧ Fld Z h a "java/util/ArrayList" "elementData" "[Ljava/lang/Object;" .null ∧ Fld Z h a "java/util/ArrayList" "size" "I" (.int z)
set_option maxRecDepth 65536 in
set_option maxHeartbeats 40000000 in
theorem rm_2 (l : Launch) (Z : State) (a0 : Array Value) (hw : own_Hw a0 Z) (ws : List Jvm.Cond) (dc : Addr) (kd : ClassId) (cr : Addr) (cc : Cell) (mr : Addr) (hG : own_G Z dc kd cr cc mr) (a : Addr) (u z : Int32) (h0 : Heap) (n0 : Nat) (Z0 : n0 ≤ h0.size) (hO : Old Z n0 h0) (E_a : Exa Z h0 a "java/util/ArrayList") (F_modCount_a : Fld Z h0 a "java/util/AbstractList" "modCount" "I" (.int u)) (F_elementData_a : Fld Z h0 a "java/util/ArrayList" "elementData" "[Ljava/lang/Object;" .null) (F_size_a : Fld Z h0 a "java/util/ArrayList" "size" "I" (.int z)) (g_a : n0 ≤ a) :
    own_Met l (⟨"java/util/AbstractList", "<init>", "()V"⟩ : MethodName) (Jvm.Cond.code (⟨"java/util/AbstractList", "<init>", "()V"⟩ : MethodName) jdk_39_method_1_code 1 none) ws own_room_2 #[(.ref a)] Z h0 (own_Q_2 Z dc kd cr cc mr a u z h0 n0) own_room_2.cells own_room_2.slots := by
  refine MetFree.of_bodySF (plainFor_of_name pn_2) hisR ?_
  intro p e s m args below meth c T Bd hml0 hP hK
  obtain ⟨rfl, hZ, hh⟩ := hP
  obtain ⟨hx, hB⟩ := And.intro Bd.exec Bd.bytes
  have hml : c.maxLocals = 1 := hml0
  have hown : s.vm.findClass "java/util/AbstractList" = some m.cls := findClass_of_methodNamed Bd.named
  have hnm := (name_of_methodNamed Bd.named Bd.method).1
  have X : Stand p l e own_room_2 s m #[(.ref a)] below meth c T [] 0 0 := Stand.of_body Bd
  have eT : T.heap = h0 := by rw [← hh, Bd.state]; rfl
  have W := @own_Wd a0 Z hw
  have N := Fr.nil n0
  have O := hO
  have K := Keep.refl h0 [a]
  refine own_enter (ef_2 m a) ?_
  show own_Goes _ _ _ _ (own_P s (own_Q_2 Z dc kd cr cc mr a u z h0 n0) own_room_2.cells own_room_2.slots)
  refine o_aloadN X hx hB d2_0 rfl rfl ?_
  refine own_kP0 (own_csp X hx hZ hB (W := 0) hown rfl (W 12 rfl) (W 13 rfl) (W 17 rfl) (W 16 rfl) (by decide) (rm_3 l Z a0 hw [] dc kd cr cc mr hG a _ n0 (own_zO O) O) (by decide) (by decide) eT hml rfl pd_0 rfl rfl rfl d2_1 (by decide) (by decide)) rfl rfl fun T X eT => ?_
  refine o_aloadN X hx hB d2_4 rfl rfl ?_
  refine o_iconst X hx hB d2_5 (0) ?_
  refine o_putF X hx hZ hB hown (W 21 rfl) Via.refl eT F_modCount_a E_a (Or.inl (W 22 rfl)) (W 1 rfl) (ty := .int) (by decide) rfl rfl d2_6 fun T h1 X eT W1 => ?_
  have N := Fr.snoc X N g_a
  have K := K.wr W1 (Or.inl (List.mem_of_getElem? (i := 0) rfl))
  have O := O.wr W1 g_a
  have f2 := E_a.wr W1
  have f3 := F_modCount_a.same W1
  have f4 := F_elementData_a.other W1 (Or.inr (slot_ne (Or.inl (W 25 rfl)) (Or.inl (W 22 rfl)) (by decide) (t := (.array (.object "java/lang/Object"))) (t' := .int) (by decide) (by decide)))
  have f5 := F_size_a.other W1 (Or.inr (slot_ne (Or.inl (W 45 rfl)) (Or.inl (W 22 rfl)) (by decide) (t := .int) (t' := .int) (by decide) (by decide)))
  exact own_retV X hx Bd.returns (hb hB d2_9) (BodyLoose.notSynchronized Bd) (by rw [eT]; exact ⟨rfl, N, K, f2, f3, f4, f5⟩) (by decide) (by decide)
theorem d1_0 : decode jdk_38_method_2_code 0 = .ok (.aload_n 0, 1) := by decide +kernel
theorem d1_1 : decode jdk_38_method_2_code 1 = .ok (.invokespecial 1, 3) := by decide +kernel
theorem d1_4 : decode jdk_38_method_2_code 4 = .ok (.aload_n 0, 1) := by decide +kernel
theorem d1_5 : decode jdk_38_method_2_code 5 = .ok (.getstatic 39, 3) := by decide +kernel
theorem d1_8 : decode jdk_38_method_2_code 8 = .ok (.putfield 9, 3) := by decide +kernel
theorem d1_11 : decode jdk_38_method_2_code 11 = .ok (.return_, 1) := by decide +kernel
theorem pn_1 : plainName "java/util/ArrayList" = true := by first | (simp [plainName, overriddenIn]; done) | decide +kernel
theorem ef_1 (m : MethodId) (a : Addr) : entryFrame m #[(.ref a)] 1 = mkF m 0 #[.val (.ref a)] [] := by first | (simp [entryFrame, mkF, argsToLocals, Value.category]; done) | rfl
abbrev own_room_1 : Room := { frames := 3, cells := 0, slots := 0, locals := 36 }
def own_Q_1 (Z : State) (dc : Addr) (kd : ClassId) (cr : Addr) (cc : Cell) (mr : Addr) (a : Addr) (u z : Int32) (h0 : Heap) (n0 : Nat) (v : Option Value) (h : Heap) (L : List Loc) : Prop := v = none ∧ Fr n0 L ∧ Keep h0 h [a] ∧ Exa Z h a "java/util/ArrayList" ∧ Fld Z h a "java/util/AbstractList" "modCount" "I" (.int (0 : Int32)) ∧ Fld Z h a "java/util/ArrayList" "elementData" "[Ljava/lang/Object;" (.ref dc) ∧ Fld Z h a "java/util/ArrayList" "size" "I" (.int z)
set_option maxRecDepth 65536 in
set_option maxHeartbeats 40000000 in
theorem rm_1 (l : Launch) (Z : State) (a0 : Array Value) (hw : own_Hw a0 Z) (ws : List Jvm.Cond) (dc : Addr) (kd : ClassId) (cr : Addr) (cc : Cell) (mr : Addr) (hG : own_G Z dc kd cr cc mr) (a : Addr) (u z : Int32) (h0 : Heap) (n0 : Nat) (Z0 : n0 ≤ h0.size) (hO : Old Z n0 h0) (E_a : Exa Z h0 a "java/util/ArrayList") (F_modCount_a : Fld Z h0 a "java/util/AbstractList" "modCount" "I" (.int u)) (F_elementData_a : Fld Z h0 a "java/util/ArrayList" "elementData" "[Ljava/lang/Object;" .null) (F_size_a : Fld Z h0 a "java/util/ArrayList" "size" "I" (.int z)) (g_a : n0 ≤ a) :
    own_Met l (⟨"java/util/ArrayList", "<init>", "()V"⟩ : MethodName) (Jvm.Cond.code (⟨"java/util/ArrayList", "<init>", "()V"⟩ : MethodName) jdk_38_method_2_code 1 none) ws own_room_1 #[(.ref a)] Z h0 (own_Q_1 Z dc kd cr cc mr a u z h0 n0) own_room_1.cells own_room_1.slots := by
  refine MetFree.of_bodySF (plainFor_of_name pn_1) hisR ?_
  intro p e s m args below meth c T Bd hml0 hP hK
  obtain ⟨rfl, hZ, hh⟩ := hP
  obtain ⟨hx, hB⟩ := And.intro Bd.exec Bd.bytes
  have hml : c.maxLocals = 1 := hml0
  have hown : s.vm.findClass "java/util/ArrayList" = some m.cls := findClass_of_methodNamed Bd.named
  have hnm := (name_of_methodNamed Bd.named Bd.method).1
  have X : Stand p l e own_room_1 s m #[(.ref a)] below meth c T [] 0 0 := Stand.of_body Bd
  have eT : T.heap = h0 := by rw [← hh, Bd.state]; rfl
  have W := @own_Wd a0 Z hw
  have N := Fr.nil n0
  have O := hO
  have K := Keep.refl h0 [a]
  refine own_enter (ef_1 m a) ?_
  show own_Goes _ _ _ _ (own_P s (own_Q_1 Z dc kd cr cc mr a u z h0 n0) own_room_1.cells own_room_1.slots)
  refine o_aloadN X hx hB d1_0 rfl rfl ?_
  refine own_kQ (own_csp X hx hZ hB (W := 0) hown rfl (W 6 rfl) (W 7 rfl) (W 11 rfl) (W 10 rfl) (by decide) (rm_2 l Z a0 hw [] dc kd cr cc mr hG a u z _ n0 (own_zO O) O E_a F_modCount_a F_elementData_a F_size_a g_a) (by decide) (by decide) eT hml rfl pd_0 rfl rfl rfl d1_1 (by decide) (by decide)) fun v T L1 hQ X => ?_
  obtain ⟨rfl, Nq1, Kq1, t1_0, t1_1, t1_2, t1_3⟩ := hQ
  have N := Fr.app N Nq1
  have K := K.trans Kq1 (allS (Or.inl (List.mem_of_getElem? (i := 0) rfl)) all0)
  have O := O.keep Kq1 (allS g_a all0)
  refine o_aloadN X hx hB d1_4 rfl rfl ?_
  refine o_getS X hx hZ hB hown (W 23 rfl) Via.refl rfl (Sta.ext O.2 hG.1) d1_5 fun T X eT => ?_
  refine o_putF X hx hZ hB hown (W 24 rfl) Via.refl eT t1_2 t1_0 (Or.inl (W 25 rfl)) (W 1 rfl) (ty := (.array (.object "java/lang/Object"))) (by decide) rfl rfl d1_8 fun T h2 X eT W2 => ?_
  have N := Fr.snoc X N g_a
  have K := K.wr W2 (Or.inl (List.mem_of_getElem? (i := 0) rfl))
  have O := O.wr W2 g_a
  have f3 := t1_0.wr W2
  have f4 := t1_1.other W2 (Or.inr (slot_ne (Or.inl (W 22 rfl)) (Or.inl (W 25 rfl)) (by decide) (t := .int) (t' := (.array (.object "java/lang/Object"))) (by decide) (by decide)))
  have f5 := t1_2.same W2
  have f6 := t1_3.other W2 (Or.inr (slot_ne (Or.inl (W 45 rfl)) (Or.inl (W 25 rfl)) (by decide) (t := .int) (t' := (.array (.object "java/lang/Object"))) (by decide) (by decide)))
  exact own_retV X hx Bd.returns (hb hB d1_11) (BodyLoose.notSynchronized Bd) (by rw [eT]; exact ⟨rfl, N, K, f3, f4, f5, f6⟩) (by decide) (by decide)
theorem d5_0 : decode jdk_33_method_22_code 0 = .ok (.iload_n 0, 1) := by decide +kernel
theorem d5_1 : decode jdk_33_method_22_code 1 = .ok (.bipush (-128), 2) := by decide +kernel
theorem d5_3 : decode jdk_33_method_22_code 3 = .ok (.if_icmp .lt 20, 3) := by decide +kernel
theorem d5_6 : decode jdk_33_method_22_code 6 = .ok (.iload_n 0, 1) := by decide +kernel
theorem d5_7 : decode jdk_33_method_22_code 7 = .ok (.getstatic 191, 3) := by decide +kernel
theorem d5_10 : decode jdk_33_method_22_code 10 = .ok (.if_icmp .gt 13, 3) := by decide +kernel
theorem d5_13 : decode jdk_33_method_22_code 13 = .ok (.getstatic 195, 3) := by decide +kernel
theorem d5_16 : decode jdk_33_method_22_code 16 = .ok (.iload_n 0, 1) := by decide +kernel
theorem d5_17 : decode jdk_33_method_22_code 17 = .ok (.sipush 128, 3) := by decide +kernel
theorem d5_20 : decode jdk_33_method_22_code 20 = .ok (.iadd, 1) := by decide +kernel
theorem d5_21 : decode jdk_33_method_22_code 21 = .ok (.aaload, 1) := by decide +kernel
theorem d5_22 : decode jdk_33_method_22_code 22 = .ok (.areturn, 1) := by decide +kernel
theorem pn_5 : plainName "java/lang/Integer" = true := by first | (simp [plainName, overriddenIn]; done) | decide +kernel
theorem ef_5 (m : MethodId) (i : Int32) : entryFrame m #[(.int i)] 1 = mkF m 0 #[.val (.int i)] [] := by first | (simp [entryFrame, mkF, argsToLocals, Value.category]; done) | rfl
abbrev own_room_5 : Room := { frames := 0, cells := 0, slots := 0, locals := 0 }
set_option maxRecDepth 65536 in
set_option maxHeartbeats 40000000 in
theorem rm_5 (l : Launch) (Z : State) (a0 : Array Value) (hw : own_Hw a0 Z) (ws : List Jvm.Cond) (dc : Addr) (kd : ClassId) (cr : Addr) (cc : Cell) (mr : Addr) (hG : own_G Z dc kd cr cc mr) (i : Int32) (r : Addr) (h0 : Heap) (n0 : Nat) (Z0 : n0 ≤ h0.size) (hO : Old Z n0 h0) (hlo : ¬ (i < (-128 : Int32))) (hhi : ¬ ((127 : Int32) < i)) (hin : ¬ ((i + (128 : Int32)) < 0 ∨ cc.slots.size ≤ (i + (128 : Int32)).toNatClampNeg)) (hr : cc.slots[(i + (128 : Int32)).toNatClampNeg]? = some (.ref r)) :
    own_Met l (⟨"java/lang/Integer", "valueOf", "(I)Ljava/lang/Integer;"⟩ : MethodName) (Jvm.Cond.code (⟨"java/lang/Integer", "valueOf", "(I)Ljava/lang/Integer;"⟩ : MethodName) jdk_33_method_22_code 1 (some (.object "java/lang/Integer"))) ws own_room_5 #[(.int i)] Z h0 (own_Qp (some (.ref r)) h0) own_room_5.cells own_room_5.slots := by
  refine MetFree.of_bodySF (plainFor_of_name pn_5) hisR ?_
  intro p e s m args below meth c T Bd hml0 hP hK
  obtain ⟨rfl, hZ, hh⟩ := hP
  obtain ⟨hx, hB⟩ := And.intro Bd.exec Bd.bytes
  have hml : c.maxLocals = 1 := hml0
  have hown : s.vm.findClass "java/lang/Integer" = some m.cls := findClass_of_methodNamed Bd.named
  have hnm := (name_of_methodNamed Bd.named Bd.method).1
  have X : Stand p l e own_room_5 s m #[(.int i)] below meth c T [] 0 0 := Stand.of_body Bd
  have eT : T.heap = h0 := by rw [← hh, Bd.state]; rfl
  have W := @own_Wd a0 Z hw
  have N := Fr.nil n0
  have O := hO
  refine own_enter (ef_5 m i) ?_
  show own_Goes _ _ _ _ (own_P s (own_Qp (some (.ref r)) h0) own_room_5.cells own_room_5.slots)
  refine o_iloadN X hx hB d5_0 rfl ?_
  refine o_bipush X hx hB d5_1 (-128) ?_
  refine o_icmpNo X hx hB d5_3 (Jvm.Free.XT.ii_lt_f hlo) ?_
  refine o_iloadN X hx hB d5_6 rfl ?_
  refine o_getS X hx hZ hB hown (W 30 rfl) Via.refl eT (Sta.ext O.2 hG.2.2.1) d5_7 fun T X eT => ?_
  refine o_icmpNo X hx hB d5_10 (Jvm.Free.XT.ii_gt_f hhi) ?_
  refine o_getS X hx hZ hB hown (W 32 rfl) Via.refl eT (Sta.ext O.2 hG.2.2.2.1) d5_13 fun T X eT => ?_
  refine o_iloadN X hx hB d5_16 rfl ?_
  refine own_step (fun _ => XS.sipush X.here hx rfl (hb hB d5_17)) ?_
  show own_Goes p.tables e below (T.setTop (mkF m 20 #[.val (.int i)] [(.int (128 : Int32)), (.int i), (.ref cr)])) _
  refine o_iadd X hx hB d5_20 ?_
  refine own_step (X.aaload hx (j := (i + (128 : Int32))) (v := (.ref r)) (by rw [eT]; exact (hG.2.2.2.2.1.ext O.2).1.1) (State.isArrayOf_alike hZ.alike (hG.2.2.2.2.1.ext O.2).1.2.1) rfl (hG.2.2.2.2.1.ext O.2).1.2.2 hin hr (g := (mkF m 21 #[.val (.int i)] [(.int (i + (128 : Int32))), (.ref cr)])) rfl rfl (hb hB d5_21)) ?_
  show own_Goes p.tables e below (T.setTop (mkF m 22 #[.val (.int i)] [(.ref r)])) _
  exact own_retA X hx Bd.returns (hb hB d5_22) (BodyLoose.notSynchronized Bd) rfl rfl ⟨rfl, rfl, eT⟩ (by decide) (by decide)
theorem d10_0 : decode jdk_29_method_65_code 0 = .ok (.iload_n 0, 1) := by decide +kernel
theorem d10_1 : decode jdk_29_method_65_code 1 = .ok (.iload_n 1, 1) := by decide +kernel
theorem d10_2 : decode jdk_29_method_65_code 2 = .ok (.if_icmp .lt 7, 3) := by decide +kernel
theorem d10_5 : decode jdk_29_method_65_code 5 = .ok (.iload_n 0, 1) := by decide +kernel
theorem d10_6 : decode jdk_29_method_65_code 6 = .ok (.goto 4, 3) := by decide +kernel
theorem d10_10 : decode jdk_29_method_65_code 10 = .ok (.ireturn, 1) := by decide +kernel
theorem ef_10 (m : MethodId) (i : Int32) (j : Int32) : entryFrame m #[(.int i), (.int j)] 2 = mkF m 0 #[.val (.int i), .val (.int j)] [] := by first | (simp [entryFrame, mkF, argsToLocals, Value.category]; done) | rfl
abbrev own_room_10 : Room := { frames := 0, cells := 0, slots := 0, locals := 0 }
set_option maxRecDepth 65536 in
set_option maxHeartbeats 40000000 in
theorem rm_10 (l : Launch) (Z : State) (a0 : Array Value) (hw : own_Hw a0 Z) (ws : List Jvm.Cond) (dc : Addr) (kd : ClassId) (cr : Addr) (cc : Cell) (mr : Addr) (hG : own_G Z dc kd cr cc mr) (i j : Int32) (h0 : Heap) (n0 : Nat) (Z0 : n0 ≤ h0.size) (hO : Old Z n0 h0) (hij : ¬ (i < j)) :
    own_Met l (⟨"java/lang/Math", "max", "(II)I"⟩ : MethodName) (Jvm.Cond.code (⟨"java/lang/Math", "max", "(II)I"⟩ : MethodName) jdk_29_method_65_code 2 (some .int)) ws own_room_10 #[(.int i), (.int j)] Z h0 (own_Qp (some (.int i)) h0) own_room_10.cells own_room_10.slots := by
  refine MetFree.of_bodySF (Jvm.Free.JP.mathPlain rfl (by decide +kernel)) hisR ?_
  intro p e s m args below meth c T Bd hml0 hP hK
  obtain ⟨rfl, hZ, hh⟩ := hP
  obtain ⟨hx, hB⟩ := And.intro Bd.exec Bd.bytes
  have hml : c.maxLocals = 2 := hml0
  have hown : s.vm.findClass "java/lang/Math" = some m.cls := findClass_of_methodNamed Bd.named
  have hnm := (name_of_methodNamed Bd.named Bd.method).1
  have X : Stand p l e own_room_10 s m #[(.int i), (.int j)] below meth c T [] 0 0 := Stand.of_body Bd
  have eT : T.heap = h0 := by rw [← hh, Bd.state]; rfl
  have W := @own_Wd a0 Z hw
  have N := Fr.nil n0
  have O := hO
  refine own_enter (ef_10 m i j) ?_
  show own_Goes _ _ _ _ (own_P s (own_Qp (some (.int i)) h0) own_room_10.cells own_room_10.slots)
  refine o_iloadN X hx hB d10_0 rfl ?_
  refine o_iloadN X hx hB d10_1 rfl ?_
  refine o_icmpNo X hx hB d10_2 (Jvm.Free.XT.ii_lt_f hij) ?_
  refine o_iloadN X hx hB d10_5 rfl ?_
  refine o_goto X hx hB d10_6 10 ?_
  exact own_retI X hx Bd.returns (hb hB d10_10) (BodyLoose.notSynchronized Bd) ⟨rfl, rfl, eT⟩ (by decide) (by decide)
theorem d9_0 : decode jdk_38_method_6_code 0 = .ok (.aload_n 0, 1) := by decide +kernel
theorem d9_1 : decode jdk_38_method_6_code 1 = .ok (.getfield 9, 3) := by decide +kernel
theorem d9_4 : decode jdk_38_method_6_code 4 = .ok (.arraylength, 1) := by decide +kernel
theorem d9_5 : decode jdk_38_method_6_code 5 = .ok (.istore_n 2, 1) := by decide +kernel
theorem d9_6 : decode jdk_38_method_6_code 6 = .ok (.iload_n 2, 1) := by decide +kernel
theorem d9_7 : decode jdk_38_method_6_code 7 = .ok (.ifCond .gt 13, 3) := by decide +kernel
theorem d9_10 : decode jdk_38_method_6_code 10 = .ok (.aload_n 0, 1) := by decide +kernel
theorem d9_11 : decode jdk_38_method_6_code 11 = .ok (.getfield 9, 3) := by decide +kernel
theorem d9_14 : decode jdk_38_method_6_code 14 = .ok (.getstatic 39, 3) := by decide +kernel
theorem d9_17 : decode jdk_38_method_6_code 17 = .ok (.if_acmp .eq 28, 3) := by decide +kernel
theorem d9_45 : decode jdk_38_method_6_code 45 = .ok (.aload_n 0, 1) := by decide +kernel
theorem d9_46 : decode jdk_38_method_6_code 46 = .ok (.bipush 10, 2) := by decide +kernel
theorem d9_48 : decode jdk_38_method_6_code 48 = .ok (.iload_n 1, 1) := by decide +kernel
theorem d9_49 : decode jdk_38_method_6_code 49 = .ok (.invokestatic 79, 3) := by decide +kernel
theorem d9_52 : decode jdk_38_method_6_code 52 = .ok (.anewarray 7, 3) := by decide +kernel
theorem d9_55 : decode jdk_38_method_6_code 55 = .ok (.dup_x1, 1) := by decide +kernel
theorem d9_56 : decode jdk_38_method_6_code 56 = .ok (.putfield 9, 3) := by decide +kernel
theorem d9_59 : decode jdk_38_method_6_code 59 = .ok (.areturn, 1) := by decide +kernel
theorem pd_1 : parseMethodDescriptor "(II)I" = some ⟨[.int, .int], some .int⟩ := by decide +kernel
theorem pn_9 : plainName "java/util/ArrayList" = true := by first | (simp [plainName, overriddenIn]; done) | decide +kernel
theorem ef_9 (m : MethodId) (a : Addr) (i : Int32) : entryFrame m #[(.ref a), (.int i)] 4 = mkF m 0 #[.val (.ref a), .val (.int i), .unset, .unset] [] := by first | (simp [entryFrame, mkF, argsToLocals, Value.category]; done) | rfl
abbrev own_room_9 : Room := { frames := 1, cells := 1, slots := 10, locals := 14 }
def own_Q_9 (Z : State) (dc : Addr) (kd : ClassId) (cr : Addr) (cc : Cell) (mr : Addr) (a : Addr) (i mc z : Int32) (h0 : Heap) (n0 : Nat) (v : Option Value) (h : Heap) (L : List Loc) : Prop := ∃ b : Addr, ∃ k : ClassId, v = (some (.ref b)) ∧ Fr n0 L ∧ Keep h0 h [a] ∧ Exa Z h a "java/util/ArrayList" ∧ Fld Z h a "java/util/AbstractList" "modCount" "I" (.int mc) ∧ Fld Z h a "java/util/ArrayList" "elementData" "[Ljava/lang/Object;" (.ref b) ∧ Fld Z h a "java/util/ArrayList" "size" "I" (.int z) ∧ own_AR Z h b k (10 : Int32) (List.replicate 10 .null) ∧ h0.size ≤ b ∧ a ≠ b
set_option maxRecDepth 65536 in
set_option maxHeartbeats 40000000 in
theorem rm_9 (l : Launch) (Z : State) (a0 : Array Value) (hw : own_Hw a0 Z) (ws : List Jvm.Cond) (dc : Addr) (kd : ClassId) (cr : Addr) (cc : Cell) (mr : Addr) (hG : own_G Z dc kd cr cc mr) (a : Addr) (i mc z : Int32) (h0 : Heap) (n0 : Nat) (Z0 : n0 ≤ h0.size) (hO : Old Z n0 h0) (E_a : Exa Z h0 a "java/util/ArrayList") (F_modCount_a : Fld Z h0 a "java/util/AbstractList" "modCount" "I" (.int mc)) (F_elementData_a : Fld Z h0 a "java/util/ArrayList" "elementData" "[Ljava/lang/Object;" (.ref dc)) (F_size_a : Fld Z h0 a "java/util/ArrayList" "size" "I" (.int z)) (g_a : n0 ≤ a) (hi : ¬ ((10 : Int32) < i)) :
    own_Met l (⟨"java/util/ArrayList", "grow", "(I)[Ljava/lang/Object;"⟩ : MethodName) (Jvm.Cond.code (⟨"java/util/ArrayList", "grow", "(I)[Ljava/lang/Object;"⟩ : MethodName) jdk_38_method_6_code 4 (some (.array (.object "java/lang/Object")))) ws own_room_9 #[(.ref a), (.int i)] Z h0 (own_Q_9 Z dc kd cr cc mr a i mc z h0 n0) own_room_9.cells own_room_9.slots := by
  refine MetFree.of_bodySF (plainFor_of_name pn_9) hisR ?_
  intro p e s m args below meth c T Bd hml0 hP hK
  obtain ⟨rfl, hZ, hh⟩ := hP
  obtain ⟨hx, hB⟩ := And.intro Bd.exec Bd.bytes
  have hml : c.maxLocals = 4 := hml0
  have hown : s.vm.findClass "java/util/ArrayList" = some m.cls := findClass_of_methodNamed Bd.named
  have hnm := (name_of_methodNamed Bd.named Bd.method).1
  have X : Stand p l e own_room_9 s m #[(.ref a), (.int i)] below meth c T [] 0 0 := Stand.of_body Bd
  have eT : T.heap = h0 := by rw [← hh, Bd.state]; rfl
  have W := @own_Wd a0 Z hw
  have N := Fr.nil n0
  have O := hO
  have K := Keep.refl h0 [a]
  refine own_enter (ef_9 m a i) ?_
  show own_Goes _ _ _ _ (own_P s (own_Q_9 Z dc kd cr cc mr a i mc z h0 n0) own_room_9.cells own_room_9.slots)
  refine o_aloadN X hx hB d9_0 rfl rfl ?_
  refine o_getF X hx hZ hB hown (W 24 rfl) Via.refl eT F_elementData_a d9_1 fun T X eT => ?_
  refine own_step (own_lenR X hx hZ eT (own_AR.ext hG.2.1 O.2) (g := (mkF m 4 #[.val (.ref a), .val (.int i), .unset, .unset] [(.ref dc)])) rfl rfl (hb hB d9_4)) ?_
  show own_Goes p.tables e below (T.setTop (mkF m 5 #[.val (.ref a), .val (.int i), .unset, .unset] [(.int (0 : Int32))])) _
  refine o_istoreN X hx hB #[.val (.ref a), .val (.int i), .val (.int (0 : Int32)), .unset] d9_5 rfl ?_
  refine o_iloadN X hx hB d9_6 rfl ?_
  refine o_ifNo X hx hB d9_7 (Jvm.Free.XT.i0_gt_f (by decide : ¬ (0 < (0 : Int32)))) ?_
  refine o_aloadN X hx hB d9_10 rfl rfl ?_
  refine o_getF X hx hZ hB hown (W 24 rfl) Via.refl eT F_elementData_a d9_11 fun T X eT => ?_
  refine o_getS X hx hZ hB hown (W 23 rfl) Via.refl eT (Sta.ext O.2 hG.1) d9_14 fun T X eT => ?_
  refine own_step (fun _ => Jvm.Free.XT.acmpYes X.here hx rfl (pc0 := 17) (pc' := 45) rfl (hb hB d9_17) rfl rfl rfl (by simp [Jvm.Free.XT.acmp]) (by decide) (by decide)) ?_
  show own_Goes p.tables e below (T.setTop (mkF m 45 #[.val (.ref a), .val (.int i), .val (.int (0 : Int32)), .unset] [])) _
  refine o_aloadN X hx hB d9_45 rfl rfl ?_
  refine o_bipush X hx hB d9_46 (10) ?_
  refine o_iloadN X hx hB d9_48 rfl ?_
  refine own_kP (own_cst X hx hZ hB (W := 1) hown (W 61 rfl) (W 62 rfl) (W 64 rfl) (W 63 rfl) (by decide) (rm_10 l Z a0 hw [] dc kd cr cc mr hG (10 : Int32) i _ n0 (own_zO O) O hi) (by decide) (by decide) eT hml rfl pd_1 rfl rfl rfl d9_49 (by decide) (by decide)) rfl rfl fun T X eT => ?_
  obtain ⟨T, h1, b52, k_b52, X, e1, E1, g1, V_b52, st⟩ := own_newR X hx hZ hown (W 65 rfl) (W 66 rfl) eT (g := (mkF m 52 #[.val (.ref a), .val (.int i), .val (.int (0 : Int32)), .unset] [(.int (10 : Int32)), (.ref a)])) rfl (hb hB d9_52) rfl 10 (by decide) (by decide) (by decide) (by decide) (by decide)
  have g_b52 := own_gn O g1
  have sz_b52 := own_gz K g1
  have K := K.ext E1
  have O := O.ext E1
  refine own_step (st) ?_
  show own_Goes p.tables e below (T.setTop (mkF m 55 #[.val (.ref a), .val (.int i), .val (.int (0 : Int32)), .unset] [(.ref b52), (.ref a)])) _
  refine own_step (fun _ => Jvm.Free.XT.dupX1 X.here hx rfl (hb hB d9_55) rfl rfl rfl) ?_
  show own_Goes p.tables e below (T.setTop (mkF m 56 #[.val (.ref a), .val (.int i), .val (.int (0 : Int32)), .unset] [(.ref b52), (.ref a), (.ref b52)])) _
  have f2 := E_a.ext E1
  have f3 := F_elementData_a.ext E1
  refine o_putF X hx hZ hB hown (W 24 rfl) Via.refl e1 f3 f2 (Or.inl (W 25 rfl)) (W 1 rfl) (ty := (.array (.object "java/lang/Object"))) (by decide) rfl rfl d9_56 fun T h4 X eT W4 => ?_
  have N := Fr.snoc X N g_a
  have K := K.wr W4 (Or.inl (List.mem_of_getElem? (i := 0) rfl))
  have O := O.wr W4 g_a
  have f5 := f2.wr W4
  have f6 := (F_modCount_a.ext E1).other W4 (Or.inr (slot_ne (Or.inl (W 22 rfl)) (Or.inl (W 25 rfl)) (by decide) (t := .int) (t' := (.array (.object "java/lang/Object"))) (by decide) (by decide)))
  have f7 := f3.same W4
  have f8 := (F_size_a.ext E1).other W4 (Or.inr (slot_ne (Or.inl (W 45 rfl)) (Or.inl (W 25 rfl)) (by decide) (t := .int) (t' := (.array (.object "java/lang/Object"))) (by decide) (by decide)))
  have z9 := own_ne1 E_a.lt g1
  have f10 := V_b52.other W4 (Ne.symm z9)
  exact own_retA X hx Bd.returns (hb hB d9_59) (BodyLoose.notSynchronized Bd) rfl rfl (by rw [eT]; exact ⟨b52, k_b52, rfl, N, K, f5, f6, f7, f8, f10, sz_b52, z9⟩) (by decide) (by decide)
theorem d8_0 : decode jdk_38_method_7_code 0 = .ok (.aload_n 0, 1) := by decide +kernel
theorem d8_1 : decode jdk_38_method_7_code 1 = .ok (.aload_n 0, 1) := by decide +kernel
theorem d8_2 : decode jdk_38_method_7_code 2 = .ok (.getfield 48, 3) := by decide +kernel
theorem d8_5 : decode jdk_38_method_7_code 5 = .ok (.iconst 1, 1) := by decide +kernel
theorem d8_6 : decode jdk_38_method_7_code 6 = .ok (.iadd, 1) := by decide +kernel
theorem d8_7 : decode jdk_38_method_7_code 7 = .ok (.invokevirtual 69, 3) := by decide +kernel
theorem d8_10 : decode jdk_38_method_7_code 10 = .ok (.areturn, 1) := by decide +kernel
theorem pd_2 : parseMethodDescriptor "(I)[Ljava/lang/Object;" = some ⟨[.int], some (.array (.object "java/lang/Object"))⟩ := by decide +kernel
theorem pn_8 : plainName "java/util/ArrayList" = true := by first | (simp [plainName, overriddenIn]; done) | decide +kernel
theorem ef_8 (m : MethodId) (a : Addr) : entryFrame m #[(.ref a)] 1 = mkF m 0 #[.val (.ref a)] [] := by first | (simp [entryFrame, mkF, argsToLocals, Value.category]; done) | rfl
abbrev own_room_8 : Room := { frames := 2, cells := 1, slots := 10, locals := 29 }
def own_Q_8 (Z : State) (dc : Addr) (kd : ClassId) (cr : Addr) (cc : Cell) (mr : Addr) (a : Addr) (mc z : Int32) (h0 : Heap) (n0 : Nat) (v : Option Value) (h : Heap) (L : List Loc) : Prop := ∃ b : Addr, ∃ k : ClassId, v = (some (.ref b)) ∧ Fr n0 L ∧ Keep h0 h [a] ∧ Exa Z h a "java/util/ArrayList" ∧ Fld Z h a "java/util/AbstractList" "modCount" "I" (.int mc) ∧ Fld Z h a "java/util/ArrayList" "elementData" "[Ljava/lang/Object;" (.ref b) ∧ Fld Z h a "java/util/ArrayList" "size" "I" (.int z) ∧ own_AR Z h b k (10 : Int32) (List.replicate 10 .null) ∧ h0.size ≤ b ∧ a ≠ b
set_option maxRecDepth 65536 in
set_option maxHeartbeats 40000000 in
theorem rm_8 (l : Launch) (Z : State) (a0 : Array Value) (hw : own_Hw a0 Z) (ws : List Jvm.Cond) (dc : Addr) (kd : ClassId) (cr : Addr) (cc : Cell) (mr : Addr) (hG : own_G Z dc kd cr cc mr) (a : Addr) (mc z : Int32) (h0 : Heap) (n0 : Nat) (Z0 : n0 ≤ h0.size) (hO : Old Z n0 h0) (E_a : Exa Z h0 a "java/util/ArrayList") (F_modCount_a : Fld Z h0 a "java/util/AbstractList" "modCount" "I" (.int mc)) (F_elementData_a : Fld Z h0 a "java/util/ArrayList" "elementData" "[Ljava/lang/Object;" (.ref dc)) (F_size_a : Fld Z h0 a "java/util/ArrayList" "size" "I" (.int z)) (g_a : n0 ≤ a) (hi : ¬ ((10 : Int32) < (z + (1 : Int32)))) :
    own_Met l (⟨"java/util/ArrayList", "grow", "()[Ljava/lang/Object;"⟩ : MethodName) (Jvm.Cond.code (⟨"java/util/ArrayList", "grow", "()[Ljava/lang/Object;"⟩ : MethodName) jdk_38_method_7_code 1 (some (.array (.object "java/lang/Object")))) ws own_room_8 #[(.ref a)] Z h0 (own_Q_8 Z dc kd cr cc mr a mc z h0 n0) own_room_8.cells own_room_8.slots := by
  refine MetFree.of_bodySF (plainFor_of_name pn_8) hisR ?_
  intro p e s m args below meth c T Bd hml0 hP hK
  obtain ⟨rfl, hZ, hh⟩ := hP
  obtain ⟨hx, hB⟩ := And.intro Bd.exec Bd.bytes
  have hml : c.maxLocals = 1 := hml0
  have hown : s.vm.findClass "java/util/ArrayList" = some m.cls := findClass_of_methodNamed Bd.named
  have hnm := (name_of_methodNamed Bd.named Bd.method).1
  have X : Stand p l e own_room_8 s m #[(.ref a)] below meth c T [] 0 0 := Stand.of_body Bd
  have eT : T.heap = h0 := by rw [← hh, Bd.state]; rfl
  have W := @own_Wd a0 Z hw
  have N := Fr.nil n0
  have O := hO
  have K := Keep.refl h0 [a]
  refine own_enter (ef_8 m a) ?_
  show own_Goes _ _ _ _ (own_P s (own_Q_8 Z dc kd cr cc mr a mc z h0 n0) own_room_8.cells own_room_8.slots)
  refine o_aloadN X hx hB d8_0 rfl rfl ?_
  refine o_aloadN X hx hB d8_1 rfl rfl ?_
  refine o_getF X hx hZ hB hown (W 44 rfl) Via.refl eT F_size_a d8_2 fun T X eT => ?_
  refine o_iconst X hx hB d8_5 (1) ?_
  refine o_iadd X hx hB d8_6 ?_
  refine own_kQ (own_cpv X hx hZ hB (W := 0) hown (W 56 rfl) (W 57 rfl) (W 59 rfl) (W 58 rfl) (W 60 rfl) (W 2 rfl) (by decide) (rm_9 l Z a0 hw [] dc kd cr cc mr hG a (z + (1 : Int32)) mc z _ n0 (own_zO O) O E_a F_modCount_a F_elementData_a F_size_a g_a hi) (by decide) (by decide) eT E_a hml rfl pd_2 rfl rfl rfl d8_7 (by decide) (by decide)) fun v T L1 hQ X => ?_
  obtain ⟨b_7, k_7, rfl, Nq1, Kq1, t1_0, t1_1, t1_2, t1_3, t1_4, t1_5, t1_6⟩ := hQ
  have g_b_7 := Nat.le_trans (own_zO O) t1_5
  have sz_b_7 := Nat.le_trans K.1 t1_5
  have N := Fr.app N Nq1
  have K := K.trans Kq1 (allS (Or.inl (List.mem_of_getElem? (i := 0) rfl)) all0)
  have O := O.keep Kq1 (allS g_a all0)
  exact own_retA X hx Bd.returns (hb hB d8_10) (BodyLoose.notSynchronized Bd) rfl rfl ⟨b_7, k_7, rfl, N, K, t1_0, t1_1, t1_2, t1_3, t1_4, sz_b_7, t1_6⟩ (by decide) (by decide)
theorem d7_0 : decode jdk_38_method_24_code 0 = .ok (.iload_n 3, 1) := by decide +kernel
theorem d7_1 : decode jdk_38_method_24_code 1 = .ok (.aload_n 2, 1) := by decide +kernel
theorem d7_2 : decode jdk_38_method_24_code 2 = .ok (.arraylength, 1) := by decide +kernel
theorem d7_3 : decode jdk_38_method_24_code 3 = .ok (.if_icmp .ne 8, 3) := by decide +kernel
theorem d7_6 : decode jdk_38_method_24_code 6 = .ok (.aload_n 0, 1) := by decide +kernel
theorem d7_7 : decode jdk_38_method_24_code 7 = .ok (.invokevirtual 129, 3) := by decide +kernel
theorem d7_10 : decode jdk_38_method_24_code 10 = .ok (.astore_n 2, 1) := by decide +kernel
theorem d7_11 : decode jdk_38_method_24_code 11 = .ok (.aload_n 2, 1) := by decide +kernel
theorem d7_12 : decode jdk_38_method_24_code 12 = .ok (.iload_n 3, 1) := by decide +kernel
theorem d7_13 : decode jdk_38_method_24_code 13 = .ok (.aload_n 1, 1) := by decide +kernel
theorem d7_14 : decode jdk_38_method_24_code 14 = .ok (.aastore, 1) := by decide +kernel
theorem d7_15 : decode jdk_38_method_24_code 15 = .ok (.aload_n 0, 1) := by decide +kernel
theorem d7_16 : decode jdk_38_method_24_code 16 = .ok (.iload_n 3, 1) := by decide +kernel
theorem d7_17 : decode jdk_38_method_24_code 17 = .ok (.iconst 1, 1) := by decide +kernel
theorem d7_18 : decode jdk_38_method_24_code 18 = .ok (.iadd, 1) := by decide +kernel
theorem d7_19 : decode jdk_38_method_24_code 19 = .ok (.putfield 48, 3) := by decide +kernel
theorem d7_22 : decode jdk_38_method_24_code 22 = .ok (.return_, 1) := by decide +kernel
theorem pd_3 : parseMethodDescriptor "()[Ljava/lang/Object;" = some ⟨[], some (.array (.object "java/lang/Object"))⟩ := by decide +kernel
theorem pn_7 : plainName "java/util/ArrayList" = true := by first | (simp [plainName, overriddenIn]; done) | decide +kernel
theorem ef_7f (m : MethodId) (a : Addr) (x : Addr) : entryFrame m #[(.ref a), (.ref x), (.ref dc), (.int (0 : Int32))] 4 = mkF m 0 #[.val (.ref a), .val (.ref x), .val (.ref dc), .val (.int (0 : Int32))] [] := by first | (simp [entryFrame, mkF, argsToLocals, Value.category]; done) | rfl
abbrev own_room_7f : Room := { frames := 3, cells := 1, slots := 10, locals := 41 }
def own_Q_7f (Z : State) (dc : Addr) (kd : ClassId) (cr : Addr) (cc : Cell) (mr : Addr) (a x : Addr) (mc : Int32) (h0 : Heap) (n0 : Nat) (v : Option Value) (h : Heap) (L : List Loc) : Prop := ∃ b : Addr, ∃ k : ClassId, v = none ∧ Fr n0 L ∧ Keep h0 h [a] ∧ Exa Z h a "java/util/ArrayList" ∧ Fld Z h a "java/util/AbstractList" "modCount" "I" (.int mc) ∧ Fld Z h a "java/util/ArrayList" "elementData" "[Ljava/lang/Object;" (.ref b) ∧ Fld Z h a "java/util/ArrayList" "size" "I" (.int ((0 : Int32) + (1 : Int32))) ∧ own_AR Z h b k (10 : Int32) ((List.replicate 10 .null).set (0 : Int32).toNatClampNeg (.ref x)) ∧ h0.size ≤ b ∧ a ≠ b
set_option maxRecDepth 65536 in
set_option maxHeartbeats 40000000 in
theorem rm_7f (l : Launch) (Z : State) (a0 : Array Value) (hw : own_Hw a0 Z) (ws : List Jvm.Cond) (dc : Addr) (kd : ClassId) (cr : Addr) (cc : Cell) (mr : Addr) (hG : own_G Z dc kd cr cc mr) (a x : Addr) (mc : Int32) (h0 : Heap) (n0 : Nat) (Z0 : n0 ≤ h0.size) (hO : Old Z n0 h0) (E_a : Exa Z h0 a "java/util/ArrayList") (F_modCount_a : Fld Z h0 a "java/util/AbstractList" "modCount" "I" (.int mc)) (F_elementData_a : Fld Z h0 a "java/util/ArrayList" "elementData" "[Ljava/lang/Object;" (.ref dc)) (F_size_a : Fld Z h0 a "java/util/ArrayList" "size" "I" (.int (0 : Int32))) (g_a : n0 ≤ a) (hX : Exa Z Z.heap x "java/lang/Integer") :
    own_Met l (⟨"java/util/ArrayList", "add", "(Ljava/lang/Object;[Ljava/lang/Object;I)V"⟩ : MethodName) (Jvm.Cond.code (⟨"java/util/ArrayList", "add", "(Ljava/lang/Object;[Ljava/lang/Object;I)V"⟩ : MethodName) jdk_38_method_24_code 4 none) ws own_room_7f #[(.ref a), (.ref x), (.ref dc), (.int (0 : Int32))] Z h0 (own_Q_7f Z dc kd cr cc mr a x mc h0 n0) own_room_7f.cells own_room_7f.slots := by
  refine MetFree.of_bodySF (plainFor_of_name pn_7) hisR ?_
  intro p e s m args below meth c T Bd hml0 hP hK
  obtain ⟨rfl, hZ, hh⟩ := hP
  obtain ⟨hx, hB⟩ := And.intro Bd.exec Bd.bytes
  have hml : c.maxLocals = 4 := hml0
  have hown : s.vm.findClass "java/util/ArrayList" = some m.cls := findClass_of_methodNamed Bd.named
  have hnm := (name_of_methodNamed Bd.named Bd.method).1
  have X : Stand p l e own_room_7f s m #[(.ref a), (.ref x), (.ref dc), (.int (0 : Int32))] below meth c T [] 0 0 := Stand.of_body Bd
  have eT : T.heap = h0 := by rw [← hh, Bd.state]; rfl
  have W := @own_Wd a0 Z hw
  have N := Fr.nil n0
  have O := hO
  have K := Keep.refl h0 [a]
  refine own_enter (ef_7f m a x) ?_
  show own_Goes _ _ _ _ (own_P s (own_Q_7f Z dc kd cr cc mr a x mc h0 n0) own_room_7f.cells own_room_7f.slots)
  refine o_iloadN X hx hB d7_0 rfl ?_
  refine o_aloadN X hx hB d7_1 rfl rfl ?_
  refine own_step (own_lenR X hx hZ eT (own_AR.ext hG.2.1 O.2) (g := (mkF m 2 #[.val (.ref a), .val (.ref x), .val (.ref dc), .val (.int (0 : Int32))] [(.ref dc), (.int (0 : Int32))])) rfl rfl (hb hB d7_2)) ?_
  show own_Goes p.tables e below (T.setTop (mkF m 3 #[.val (.ref a), .val (.ref x), .val (.ref dc), .val (.int (0 : Int32))] [(.int (0 : Int32)), (.int (0 : Int32))])) _
  refine o_icmpNo X hx hB d7_3 (Jvm.Free.XT.ii_ne_f rfl) ?_
  refine o_aloadN X hx hB d7_6 rfl rfl ?_
  refine own_kQ (own_cpv X hx hZ hB (W := 0) hown (W 51 rfl) (W 52 rfl) (W 54 rfl) (W 53 rfl) (W 55 rfl) (W 2 rfl) (by decide) (rm_8 l Z a0 hw [] dc kd cr cc mr hG a mc (0 : Int32) _ n0 (own_zO O) O E_a F_modCount_a F_elementData_a F_size_a g_a (by decide)) (by decide) (by decide) eT E_a hml rfl pd_3 rfl rfl rfl d7_7 (by decide) (by decide)) fun v T L1 hQ X => ?_
  obtain ⟨b_7, k_7, rfl, Nq1, Kq1, t1_0, t1_1, t1_2, t1_3, t1_4, t1_5, t1_6⟩ := hQ
  have g_b_7 := Nat.le_trans (own_zO O) t1_5
  have sz_b_7 := Nat.le_trans K.1 t1_5
  have N := Fr.app N Nq1
  have K := K.trans Kq1 (allS (Or.inl (List.mem_of_getElem? (i := 0) rfl)) all0)
  have O := O.keep Kq1 (allS g_a all0)
  refine o_astoreN X hx hB #[.val (.ref a), .val (.ref x), .val (.ref b_7), .val (.int (0 : Int32))] d7_10 rfl rfl ?_
  refine o_aloadN X hx hB d7_11 rfl rfl ?_
  refine o_iloadN X hx hB d7_12 rfl ?_
  refine o_aloadN X hx hB d7_13 rfl rfl ?_
  obtain ⟨T, h2, L2, X, e2, Nq2, V2, W2, st⟩ := own_stR X hx hZ rfl t1_4 (j := (0 : Int32)) ⟨by decide, by decide⟩ (Or.inr ⟨_, rfl, Ins.of_exa (Exa.ext O.2 hX) (W 67 rfl)⟩) (g := (mkF m 14 #[.val (.ref a), .val (.ref x), .val (.ref b_7), .val (.int (0 : Int32))] [(.ref x), (.int (0 : Int32)), (.ref b_7)])) rfl rfl (hb hB d7_14)
  have N := Nq2 n0 N g_b_7
  have K := K.wr W2 (Or.inr sz_b_7)
  have O := O.wr W2 g_b_7
  refine own_step (st) ?_
  show own_Goes p.tables e below (T.setTop (mkF m 15 #[.val (.ref a), .val (.ref x), .val (.ref b_7), .val (.int (0 : Int32))] [])) _
  refine o_aloadN X hx hB d7_15 rfl rfl ?_
  refine o_iloadN X hx hB d7_16 rfl ?_
  refine o_iconst X hx hB d7_17 (1) ?_
  refine o_iadd X hx hB d7_18 ?_
  have f3 := t1_0.wr W2
  have f4 := t1_3.other W2 (Or.inl t1_6)
  refine o_putF X hx hZ hB hown (W 44 rfl) Via.refl e2 f4 f3 (Or.inl (W 45 rfl)) (W 1 rfl) (ty := .int) (by decide) rfl rfl d7_19 fun T h5 X eT W5 => ?_
  have N := Fr.snoc X N g_a
  have K := K.wr W5 (Or.inl (List.mem_of_getElem? (i := 0) rfl))
  have O := O.wr W5 g_a
  have f6 := f3.wr W5
  have f7 := (t1_1.other W2 (Or.inl t1_6)).other W5 (Or.inr (slot_ne (Or.inl (W 22 rfl)) (Or.inl (W 45 rfl)) (by decide) (t := .int) (t' := .int) (by decide) (by decide)))
  have f8 := (t1_2.other W2 (Or.inl t1_6)).other W5 (Or.inr (slot_ne (Or.inl (W 25 rfl)) (Or.inl (W 45 rfl)) (by decide) (t := (.array (.object "java/lang/Object"))) (t' := .int) (by decide) (by decide)))
  have f9 := f4.same W5
  have f10 := V2.other W5 (Ne.symm t1_6)
  exact own_retV X hx Bd.returns (hb hB d7_22) (BodyLoose.notSynchronized Bd) (by rw [eT]; exact ⟨b_7, k_7, rfl, N, K, f6, f7, f8, f9, f10, sz_b_7, t1_6⟩) (by decide) (by decide)
theorem ef_7r (m : MethodId) (a : Addr) (x : Addr) (ea : Addr) (i : Int32) : entryFrame m #[(.ref a), (.ref x), (.ref ea), (.int i)] 4 = mkF m 0 #[.val (.ref a), .val (.ref x), .val (.ref ea), .val (.int i)] [] := by first | (simp [entryFrame, mkF, argsToLocals, Value.category]; done) | rfl
abbrev own_room_7r : Room := { frames := 0, cells := 0, slots := 0, locals := 0 }
def own_Q_7r (Z : State) (dc : Addr) (kd : ClassId) (cr : Addr) (cc : Cell) (mr : Addr) (a x ea : Addr) (i mc : Int32) (k : ClassId) (vs : List Value) (h0 : Heap) (n0 : Nat) (v : Option Value) (h : Heap) (L : List Loc) : Prop := v = none ∧ Fr n0 L ∧ Keep h0 h [a, ea] ∧ Exa Z h a "java/util/ArrayList" ∧ Fld Z h a "java/util/AbstractList" "modCount" "I" (.int mc) ∧ Fld Z h a "java/util/ArrayList" "elementData" "[Ljava/lang/Object;" (.ref ea) ∧ Fld Z h a "java/util/ArrayList" "size" "I" (.int (i + (1 : Int32))) ∧ own_AR Z h ea k (10 : Int32) (vs.set i.toNatClampNeg (.ref x)) ∧ a ≠ ea
set_option maxRecDepth 65536 in
set_option maxHeartbeats 40000000 in
theorem rm_7r (l : Launch) (Z : State) (a0 : Array Value) (hw : own_Hw a0 Z) (ws : List Jvm.Cond) (dc : Addr) (kd : ClassId) (cr : Addr) (cc : Cell) (mr : Addr) (hG : own_G Z dc kd cr cc mr) (a x ea : Addr) (i mc : Int32) (k : ClassId) (vs : List Value) (h0 : Heap) (n0 : Nat) (Z0 : n0 ≤ h0.size) (hO : Old Z n0 h0) (E_a : Exa Z h0 a "java/util/ArrayList") (F_modCount_a : Fld Z h0 a "java/util/AbstractList" "modCount" "I" (.int mc)) (F_elementData_a : Fld Z h0 a "java/util/ArrayList" "elementData" "[Ljava/lang/Object;" (.ref ea)) (F_size_a : Fld Z h0 a "java/util/ArrayList" "size" "I" (.int i)) (V_ea : own_AR Z h0 ea k (10 : Int32) vs) (ne_a_ea : a ≠ ea) (g_a : n0 ≤ a) (g_ea : n0 ≤ ea) (hi : ¬ i < 0 ∧ i < (10 : Int32)) (hne : ¬ (i = (10 : Int32))) (hX : Exa Z Z.heap x "java/lang/Integer") :
    own_Met l (⟨"java/util/ArrayList", "add", "(Ljava/lang/Object;[Ljava/lang/Object;I)V"⟩ : MethodName) (Jvm.Cond.code (⟨"java/util/ArrayList", "add", "(Ljava/lang/Object;[Ljava/lang/Object;I)V"⟩ : MethodName) jdk_38_method_24_code 4 none) ws own_room_7r #[(.ref a), (.ref x), (.ref ea), (.int i)] Z h0 (own_Q_7r Z dc kd cr cc mr a x ea i mc k vs h0 n0) own_room_7r.cells own_room_7r.slots := by
  refine MetFree.of_bodySF (plainFor_of_name pn_7) hisR ?_
  intro p e s m args below meth c T Bd hml0 hP hK
  obtain ⟨rfl, hZ, hh⟩ := hP
  obtain ⟨hx, hB⟩ := And.intro Bd.exec Bd.bytes
  have hml : c.maxLocals = 4 := hml0
  have hown : s.vm.findClass "java/util/ArrayList" = some m.cls := findClass_of_methodNamed Bd.named
  have hnm := (name_of_methodNamed Bd.named Bd.method).1
  have X : Stand p l e own_room_7r s m #[(.ref a), (.ref x), (.ref ea), (.int i)] below meth c T [] 0 0 := Stand.of_body Bd
  have eT : T.heap = h0 := by rw [← hh, Bd.state]; rfl
  have W := @own_Wd a0 Z hw
  have N := Fr.nil n0
  have O := hO
  have K := Keep.refl h0 [a, ea]
  refine own_enter (ef_7r m a x ea i) ?_
  show own_Goes _ _ _ _ (own_P s (own_Q_7r Z dc kd cr cc mr a x ea i mc k vs h0 n0) own_room_7r.cells own_room_7r.slots)
  refine o_iloadN X hx hB d7_0 rfl ?_
  refine o_aloadN X hx hB d7_1 rfl rfl ?_
  refine own_step (own_lenR X hx hZ eT V_ea (g := (mkF m 2 #[.val (.ref a), .val (.ref x), .val (.ref ea), .val (.int i)] [(.ref ea), (.int i)])) rfl rfl (hb hB d7_2)) ?_
  show own_Goes p.tables e below (T.setTop (mkF m 3 #[.val (.ref a), .val (.ref x), .val (.ref ea), .val (.int i)] [(.int (10 : Int32)), (.int i)])) _
  refine o_icmpYes X hx hB d7_3 (Jvm.Free.XT.ii_ne_t hne) 11 ?_
  refine o_aloadN X hx hB d7_11 rfl rfl ?_
  refine o_iloadN X hx hB d7_12 rfl ?_
  refine o_aloadN X hx hB d7_13 rfl rfl ?_
  obtain ⟨T, h1, L1, X, e1, Nq1, V1, W1, st⟩ := own_stR X hx hZ eT V_ea (j := i) hi (Or.inr ⟨_, rfl, Ins.of_exa (Exa.ext O.2 hX) (W 67 rfl)⟩) (g := (mkF m 14 #[.val (.ref a), .val (.ref x), .val (.ref ea), .val (.int i)] [(.ref x), (.int i), (.ref ea)])) rfl rfl (hb hB d7_14)
  have N := Nq1 n0 N g_ea
  have K := K.wr W1 (Or.inl (List.mem_of_getElem? (i := 1) rfl))
  have O := O.wr W1 g_ea
  refine own_step (st) ?_
  show own_Goes p.tables e below (T.setTop (mkF m 15 #[.val (.ref a), .val (.ref x), .val (.ref ea), .val (.int i)] [])) _
  refine o_aloadN X hx hB d7_15 rfl rfl ?_
  refine o_iloadN X hx hB d7_16 rfl ?_
  refine o_iconst X hx hB d7_17 (1) ?_
  refine o_iadd X hx hB d7_18 ?_
  have f2 := E_a.wr W1
  have f3 := F_size_a.other W1 (Or.inl ne_a_ea)
  refine o_putF X hx hZ hB hown (W 44 rfl) Via.refl e1 f3 f2 (Or.inl (W 45 rfl)) (W 1 rfl) (ty := .int) (by decide) rfl rfl d7_19 fun T h4 X eT W4 => ?_
  have N := Fr.snoc X N g_a
  have K := K.wr W4 (Or.inl (List.mem_of_getElem? (i := 0) rfl))
  have O := O.wr W4 g_a
  have f5 := f2.wr W4
  have f6 := (F_modCount_a.other W1 (Or.inl ne_a_ea)).other W4 (Or.inr (slot_ne (Or.inl (W 22 rfl)) (Or.inl (W 45 rfl)) (by decide) (t := .int) (t' := .int) (by decide) (by decide)))
  have f7 := (F_elementData_a.other W1 (Or.inl ne_a_ea)).other W4 (Or.inr (slot_ne (Or.inl (W 25 rfl)) (Or.inl (W 45 rfl)) (by decide) (t := (.array (.object "java/lang/Object"))) (t' := .int) (by decide) (by decide)))
  have f8 := f3.same W4
  have f9 := V1.other W4 (Ne.symm ne_a_ea)
  exact own_retV X hx Bd.returns (hb hB d7_22) (BodyLoose.notSynchronized Bd) (by rw [eT]; exact ⟨rfl, N, K, f5, f6, f7, f8, f9, ne_a_ea⟩) (by decide) (by decide)
theorem d6_0 : decode jdk_38_method_25_code 0 = .ok (.aload_n 0, 1) := by decide +kernel
theorem d6_1 : decode jdk_38_method_25_code 1 = .ok (.dup, 1) := by decide +kernel
theorem d6_2 : decode jdk_38_method_25_code 2 = .ok (.getfield 63, 3) := by decide +kernel
theorem d6_5 : decode jdk_38_method_25_code 5 = .ok (.iconst 1, 1) := by decide +kernel
theorem d6_6 : decode jdk_38_method_25_code 6 = .ok (.iadd, 1) := by decide +kernel
theorem d6_7 : decode jdk_38_method_25_code 7 = .ok (.putfield 63, 3) := by decide +kernel
theorem d6_10 : decode jdk_38_method_25_code 10 = .ok (.aload_n 0, 1) := by decide +kernel
theorem d6_11 : decode jdk_38_method_25_code 11 = .ok (.aload_n 1, 1) := by decide +kernel
theorem d6_12 : decode jdk_38_method_25_code 12 = .ok (.aload_n 0, 1) := by decide +kernel
theorem d6_13 : decode jdk_38_method_25_code 13 = .ok (.getfield 9, 3) := by decide +kernel
theorem d6_16 : decode jdk_38_method_25_code 16 = .ok (.aload_n 0, 1) := by decide +kernel
theorem d6_17 : decode jdk_38_method_25_code 17 = .ok (.getfield 48, 3) := by decide +kernel
theorem d6_20 : decode jdk_38_method_25_code 20 = .ok (.invokevirtual 131, 3) := by decide +kernel
theorem d6_23 : decode jdk_38_method_25_code 23 = .ok (.iconst 1, 1) := by decide +kernel
theorem d6_24 : decode jdk_38_method_25_code 24 = .ok (.ireturn, 1) := by decide +kernel
theorem pd_4 : parseMethodDescriptor "(Ljava/lang/Object;[Ljava/lang/Object;I)V" = some ⟨[(.object "java/lang/Object"), (.array (.object "java/lang/Object")), .int], none⟩ := by decide +kernel
theorem pn_6 : plainName "java/util/ArrayList" = true := by first | (simp [plainName, overriddenIn]; done) | decide +kernel
theorem ef_6f (m : MethodId) (a : Addr) (x : Addr) : entryFrame m #[(.ref a), (.ref x)] 2 = mkF m 0 #[.val (.ref a), .val (.ref x)] [] := by first | (simp [entryFrame, mkF, argsToLocals, Value.category]; done) | rfl
abbrev own_room_6f : Room := { frames := 4, cells := 1, slots := 10, locals := 56 }
def own_Q_6f (Z : State) (dc : Addr) (kd : ClassId) (cr : Addr) (cc : Cell) (mr : Addr) (a x : Addr) (mc : Int32) (h0 : Heap) (n0 : Nat) (v : Option Value) (h : Heap) (L : List Loc) : Prop := ∃ b : Addr, ∃ k : ClassId, v = (some (.int (1 : Int32))) ∧ Fr n0 L ∧ Keep h0 h [a] ∧ Exa Z h a "java/util/ArrayList" ∧ Fld Z h a "java/util/AbstractList" "modCount" "I" (.int (mc + (1 : Int32))) ∧ Fld Z h a "java/util/ArrayList" "elementData" "[Ljava/lang/Object;" (.ref b) ∧ Fld Z h a "java/util/ArrayList" "size" "I" (.int ((0 : Int32) + (1 : Int32))) ∧ own_AR Z h b k (10 : Int32) ((List.replicate 10 .null).set (0 : Int32).toNatClampNeg (.ref x)) ∧ h0.size ≤ b ∧ a ≠ b
set_option maxRecDepth 65536 in
set_option maxHeartbeats 40000000 in
theorem rm_6f (l : Launch) (Z : State) (a0 : Array Value) (hw : own_Hw a0 Z) (ws : List Jvm.Cond) (dc : Addr) (kd : ClassId) (cr : Addr) (cc : Cell) (mr : Addr) (hG : own_G Z dc kd cr cc mr) (a x : Addr) (mc : Int32) (h0 : Heap) (n0 : Nat) (Z0 : n0 ≤ h0.size) (hO : Old Z n0 h0) (E_a : Exa Z h0 a "java/util/ArrayList") (F_modCount_a : Fld Z h0 a "java/util/AbstractList" "modCount" "I" (.int mc)) (F_elementData_a : Fld Z h0 a "java/util/ArrayList" "elementData" "[Ljava/lang/Object;" (.ref dc)) (F_size_a : Fld Z h0 a "java/util/ArrayList" "size" "I" (.int (0 : Int32))) (g_a : n0 ≤ a) (hX : Exa Z Z.heap x "java/lang/Integer") :
    own_Met l (⟨"java/util/ArrayList", "add", "(Ljava/lang/Object;)Z"⟩ : MethodName) (Jvm.Cond.code (⟨"java/util/ArrayList", "add", "(Ljava/lang/Object;)Z"⟩ : MethodName) jdk_38_method_25_code 2 (some .boolean)) ws own_room_6f #[(.ref a), (.ref x)] Z h0 (own_Q_6f Z dc kd cr cc mr a x mc h0 n0) own_room_6f.cells own_room_6f.slots := by
  refine MetFree.of_bodySF (plainFor_of_name pn_6) hisR ?_
  intro p e s m args below meth c T Bd hml0 hP hK
  obtain ⟨rfl, hZ, hh⟩ := hP
  obtain ⟨hx, hB⟩ := And.intro Bd.exec Bd.bytes
  have hml : c.maxLocals = 2 := hml0
  have hown : s.vm.findClass "java/util/ArrayList" = some m.cls := findClass_of_methodNamed Bd.named
  have hnm := (name_of_methodNamed Bd.named Bd.method).1
  have X : Stand p l e own_room_6f s m #[(.ref a), (.ref x)] below meth c T [] 0 0 := Stand.of_body Bd
  have eT : T.heap = h0 := by rw [← hh, Bd.state]; rfl
  have W := @own_Wd a0 Z hw
  have N := Fr.nil n0
  have O := hO
  have K := Keep.refl h0 [a]
  refine own_enter (ef_6f m a x) ?_
  show own_Goes _ _ _ _ (own_P s (own_Q_6f Z dc kd cr cc mr a x mc h0 n0) own_room_6f.cells own_room_6f.slots)
  refine o_aloadN X hx hB d6_0 rfl rfl ?_
  refine o_dup X hx hB d6_1 rfl ?_
  refine o_getF X hx hZ hB hown (W 42 rfl) (Via.of (W 43 rfl)) eT F_modCount_a d6_2 fun T X eT => ?_
  refine o_iconst X hx hB d6_5 (1) ?_
  refine o_iadd X hx hB d6_6 ?_
  refine o_putF X hx hZ hB hown (W 42 rfl) (Via.of (W 43 rfl)) eT F_modCount_a E_a (Or.inl (W 22 rfl)) (W 1 rfl) (ty := .int) (by decide) rfl rfl d6_7 fun T h1 X eT W1 => ?_
  have N := Fr.snoc X N g_a
  have K := K.wr W1 (Or.inl (List.mem_of_getElem? (i := 0) rfl))
  have O := O.wr W1 g_a
  refine o_aloadN X hx hB d6_10 rfl rfl ?_
  refine o_aloadN X hx hB d6_11 rfl rfl ?_
  refine o_aloadN X hx hB d6_12 rfl rfl ?_
  have f2 := F_elementData_a.other W1 (Or.inr (slot_ne (Or.inl (W 25 rfl)) (Or.inl (W 22 rfl)) (by decide) (t := (.array (.object "java/lang/Object"))) (t' := .int) (by decide) (by decide)))
  refine o_getF X hx hZ hB hown (W 24 rfl) Via.refl eT f2 d6_13 fun T X eT => ?_
  refine o_aloadN X hx hB d6_16 rfl rfl ?_
  have f3 := F_size_a.other W1 (Or.inr (slot_ne (Or.inl (W 45 rfl)) (Or.inl (W 22 rfl)) (by decide) (t := .int) (t' := .int) (by decide) (by decide)))
  refine o_getF X hx hZ hB hown (W 44 rfl) Via.refl eT f3 d6_17 fun T X eT => ?_
  have f4 := E_a.wr W1
  have f5 := F_modCount_a.same W1
  refine own_kQ (own_cpv X hx hZ hB (W := 0) hown (W 46 rfl) (W 47 rfl) (W 49 rfl) (W 48 rfl) (W 50 rfl) (W 2 rfl) (by decide) (rm_7f l Z a0 hw [] dc kd cr cc mr hG a x (mc + (1 : Int32)) _ n0 (own_zO O) O f4 f5 f2 f3 g_a hX) (by decide) (by decide) eT f4 hml rfl pd_4 rfl rfl rfl d6_20 (by decide) (by decide)) fun v T L6 hQ X => ?_
  obtain ⟨b_20, k_20, rfl, Nq6, Kq6, t6_0, t6_1, t6_2, t6_3, t6_4, t6_5, t6_6⟩ := hQ
  have g_b_20 := Nat.le_trans (own_zO O) t6_5
  have sz_b_20 := Nat.le_trans K.1 t6_5
  have N := Fr.app N Nq6
  have K := K.trans Kq6 (allS (Or.inl (List.mem_of_getElem? (i := 0) rfl)) all0)
  have O := O.keep Kq6 (allS g_a all0)
  refine o_iconst X hx hB d6_23 (1) ?_
  exact own_retN X hx (t := .boolean) Bd.returns (by simp) (hb hB d6_24) (BodyLoose.notSynchronized Bd) (w := (1 : Int32)) rfl ⟨b_20, k_20, rfl, N, K, t6_0, t6_1, t6_2, t6_3, t6_4, sz_b_20, t6_6⟩ (by decide) (by decide)
theorem ef_6r (m : MethodId) (a : Addr) (x : Addr) : entryFrame m #[(.ref a), (.ref x)] 2 = mkF m 0 #[.val (.ref a), .val (.ref x)] [] := by first | (simp [entryFrame, mkF, argsToLocals, Value.category]; done) | rfl
abbrev own_room_6r : Room := { frames := 1, cells := 0, slots := 0, locals := 15 }
def own_Q_6r (Z : State) (dc : Addr) (kd : ClassId) (cr : Addr) (cc : Cell) (mr : Addr) (a x : Addr) (mc : Int32) (ea : Addr) (k : ClassId) (vs : List Value) (i : Int32) (h0 : Heap) (n0 : Nat) (v : Option Value) (h : Heap) (L : List Loc) : Prop := v = (some (.int (1 : Int32))) ∧ Fr n0 L ∧ Keep h0 h [a, ea] ∧ Exa Z h a "java/util/ArrayList" ∧ Fld Z h a "java/util/AbstractList" "modCount" "I" (.int (mc + (1 : Int32))) ∧ Fld Z h a "java/util/ArrayList" "elementData" "[Ljava/lang/Object;" (.ref ea) ∧ Fld Z h a "java/util/ArrayList" "size" "I" (.int (i + (1 : Int32))) ∧ own_AR Z h ea k (10 : Int32) (vs.set i.toNatClampNeg (.ref x)) ∧ a ≠ ea
set_option maxRecDepth 65536 in
set_option maxHeartbeats 40000000 in
theorem rm_6r (l : Launch) (Z : State) (a0 : Array Value) (hw : own_Hw a0 Z) (ws : List Jvm.Cond) (dc : Addr) (kd : ClassId) (cr : Addr) (cc : Cell) (mr : Addr) (hG : own_G Z dc kd cr cc mr) (a x : Addr) (mc : Int32) (ea : Addr) (k : ClassId) (vs : List Value) (i : Int32) (h0 : Heap) (n0 : Nat) (Z0 : n0 ≤ h0.size) (hO : Old Z n0 h0) (E_a : Exa Z h0 a "java/util/ArrayList") (F_modCount_a : Fld Z h0 a "java/util/AbstractList" "modCount" "I" (.int mc)) (F_elementData_a : Fld Z h0 a "java/util/ArrayList" "elementData" "[Ljava/lang/Object;" (.ref ea)) (F_size_a : Fld Z h0 a "java/util/ArrayList" "size" "I" (.int i)) (V_ea : own_AR Z h0 ea k (10 : Int32) vs) (ne_a_ea : a ≠ ea) (g_a : n0 ≤ a) (g_ea : n0 ≤ ea) (hi : ¬ i < 0 ∧ i < (10 : Int32)) (hne : ¬ (i = (10 : Int32))) (hX : Exa Z Z.heap x "java/lang/Integer") :
    own_Met l (⟨"java/util/ArrayList", "add", "(Ljava/lang/Object;)Z"⟩ : MethodName) (Jvm.Cond.code (⟨"java/util/ArrayList", "add", "(Ljava/lang/Object;)Z"⟩ : MethodName) jdk_38_method_25_code 2 (some .boolean)) ws own_room_6r #[(.ref a), (.ref x)] Z h0 (own_Q_6r Z dc kd cr cc mr a x mc ea k vs i h0 n0) own_room_6r.cells own_room_6r.slots := by
  refine MetFree.of_bodySF (plainFor_of_name pn_6) hisR ?_
  intro p e s m args below meth c T Bd hml0 hP hK
  obtain ⟨rfl, hZ, hh⟩ := hP
  obtain ⟨hx, hB⟩ := And.intro Bd.exec Bd.bytes
  have hml : c.maxLocals = 2 := hml0
  have hown : s.vm.findClass "java/util/ArrayList" = some m.cls := findClass_of_methodNamed Bd.named
  have hnm := (name_of_methodNamed Bd.named Bd.method).1
  have X : Stand p l e own_room_6r s m #[(.ref a), (.ref x)] below meth c T [] 0 0 := Stand.of_body Bd
  have eT : T.heap = h0 := by rw [← hh, Bd.state]; rfl
  have W := @own_Wd a0 Z hw
  have N := Fr.nil n0
  have O := hO
  have K := Keep.refl h0 [a, ea]
  refine own_enter (ef_6r m a x) ?_
  show own_Goes _ _ _ _ (own_P s (own_Q_6r Z dc kd cr cc mr a x mc ea k vs i h0 n0) own_room_6r.cells own_room_6r.slots)
  refine o_aloadN X hx hB d6_0 rfl rfl ?_
  refine o_dup X hx hB d6_1 rfl ?_
  refine o_getF X hx hZ hB hown (W 42 rfl) (Via.of (W 43 rfl)) eT F_modCount_a d6_2 fun T X eT => ?_
  refine o_iconst X hx hB d6_5 (1) ?_
  refine o_iadd X hx hB d6_6 ?_
  refine o_putF X hx hZ hB hown (W 42 rfl) (Via.of (W 43 rfl)) eT F_modCount_a E_a (Or.inl (W 22 rfl)) (W 1 rfl) (ty := .int) (by decide) rfl rfl d6_7 fun T h1 X eT W1 => ?_
  have N := Fr.snoc X N g_a
  have K := K.wr W1 (Or.inl (List.mem_of_getElem? (i := 0) rfl))
  have O := O.wr W1 g_a
  refine o_aloadN X hx hB d6_10 rfl rfl ?_
  refine o_aloadN X hx hB d6_11 rfl rfl ?_
  refine o_aloadN X hx hB d6_12 rfl rfl ?_
  have f2 := F_elementData_a.other W1 (Or.inr (slot_ne (Or.inl (W 25 rfl)) (Or.inl (W 22 rfl)) (by decide) (t := (.array (.object "java/lang/Object"))) (t' := .int) (by decide) (by decide)))
  refine o_getF X hx hZ hB hown (W 24 rfl) Via.refl eT f2 d6_13 fun T X eT => ?_
  refine o_aloadN X hx hB d6_16 rfl rfl ?_
  have f3 := F_size_a.other W1 (Or.inr (slot_ne (Or.inl (W 45 rfl)) (Or.inl (W 22 rfl)) (by decide) (t := .int) (t' := .int) (by decide) (by decide)))
  refine o_getF X hx hZ hB hown (W 44 rfl) Via.refl eT f3 d6_17 fun T X eT => ?_
  have f4 := E_a.wr W1
  have f5 := F_modCount_a.same W1
  have f6 := V_ea.other W1 (Ne.symm ne_a_ea)
  refine own_kQ (own_cpv X hx hZ hB (W := 0) hown (W 46 rfl) (W 47 rfl) (W 49 rfl) (W 48 rfl) (W 50 rfl) (W 2 rfl) (by decide) (rm_7r l Z a0 hw [] dc kd cr cc mr hG a x ea i (mc + (1 : Int32)) k vs _ n0 (own_zO O) O f4 f5 f2 f3 f6 ne_a_ea g_a g_ea hi hne hX) (by decide) (by decide) eT f4 hml rfl pd_4 rfl rfl rfl d6_20 (by decide) (by decide)) fun v T L7 hQ X => ?_
  obtain ⟨rfl, Nq7, Kq7, t7_0, t7_1, t7_2, t7_3, t7_4, t7_5⟩ := hQ
  have N := Fr.app N Nq7
  have K := K.trans Kq7 (allS (Or.inl (List.mem_of_getElem? (i := 0) rfl)) (allS (Or.inl (List.mem_of_getElem? (i := 1) rfl)) all0))
  have O := O.keep Kq7 (allS g_a (allS g_ea all0))
  refine o_iconst X hx hB d6_23 (1) ?_
  exact own_retN X hx (t := .boolean) Bd.returns (by simp) (hb hB d6_24) (BodyLoose.notSynchronized Bd) (w := (1 : Int32)) rfl ⟨rfl, N, K, t7_0, t7_1, t7_2, t7_3, t7_4, t7_5⟩ (by decide) (by decide)
theorem d12_0 : decode jdk_21_method_3_code 0 = .ok (.aload_n 0, 1) := by decide +kernel
theorem d12_1 : decode jdk_21_method_3_code 1 = .ok (.invokespecial 42, 3) := by decide +kernel
theorem d12_4 : decode jdk_21_method_3_code 4 = .ok (.aload_n 0, 1) := by decide +kernel
theorem d12_5 : decode jdk_21_method_3_code 5 = .ok (.bipush 17, 2) := by decide +kernel
theorem d12_7 : decode jdk_21_method_3_code 7 = .ok (.anewarray 47, 3) := by decide +kernel
theorem d12_10 : decode jdk_21_method_3_code 10 = .ok (.putfield 3, 3) := by decide +kernel
theorem d12_13 : decode jdk_21_method_3_code 13 = .ok (.return_, 1) := by decide +kernel
theorem pn_12 : plainName "java/util/ArrayDeque" = true := by first | (simp [plainName, overriddenIn]; done) | decide +kernel
theorem ef_12 (m : MethodId) (a : Addr) : entryFrame m #[(.ref a)] 1 = mkF m 0 #[.val (.ref a)] [] := by first | (simp [entryFrame, mkF, argsToLocals, Value.category]; done) | rfl
abbrev own_room_12 : Room := { frames := 2, cells := 1, slots := 17, locals := 24 }
def own_Q_12 (Z : State) (dc : Addr) (kd : ClassId) (cr : Addr) (cc : Cell) (mr : Addr) (a : Addr) (h0 : Heap) (n0 : Nat) (v : Option Value) (h : Heap) (L : List Loc) : Prop := ∃ ea : Addr, ∃ k : ClassId, v = none ∧ Fr n0 L ∧ Keep h0 h [a] ∧ Exa Z h a "java/util/ArrayDeque" ∧ Fld Z h a "java/util/ArrayDeque" "elements" "[Ljava/lang/Object;" (.ref ea) ∧ Fld Z h a "java/util/ArrayDeque" "head" "I" (.int (0 : Int32)) ∧ Fld Z h a "java/util/ArrayDeque" "tail" "I" (.int (0 : Int32)) ∧ own_AR Z h ea k (17 : Int32) (List.replicate 17 .null) ∧ h0.size ≤ ea ∧ a ≠ ea
set_option maxRecDepth 65536 in
set_option maxHeartbeats 40000000 in
theorem rm_12 (l : Launch) (Z : State) (a0 : Array Value) (hw : own_Hw a0 Z) (ws : List Jvm.Cond) (dc : Addr) (kd : ClassId) (cr : Addr) (cc : Cell) (mr : Addr) (hG : own_G Z dc kd cr cc mr) (a : Addr) (h0 : Heap) (n0 : Nat) (Z0 : n0 ≤ h0.size) (hO : Old Z n0 h0) (E_a : Exa Z h0 a "java/util/ArrayDeque") (F_elements_a : Fld Z h0 a "java/util/ArrayDeque" "elements" "[Ljava/lang/Object;" .null) (F_head_a : Fld Z h0 a "java/util/ArrayDeque" "head" "I" (.int (0 : Int32))) (F_tail_a : Fld Z h0 a "java/util/ArrayDeque" "tail" "I" (.int (0 : Int32))) (g_a : n0 ≤ a) :
    own_Met l (⟨"java/util/ArrayDeque", "<init>", "()V"⟩ : MethodName) (Jvm.Cond.code (⟨"java/util/ArrayDeque", "<init>", "()V"⟩ : MethodName) jdk_21_method_3_code 1 none) ws own_room_12 #[(.ref a)] Z h0 (own_Q_12 Z dc kd cr cc mr a h0 n0) own_room_12.cells own_room_12.slots := by
  refine MetFree.of_bodySF (plainFor_of_name pn_12) hisR ?_
  intro p e s m args below meth c T Bd hml0 hP hK
  obtain ⟨rfl, hZ, hh⟩ := hP
  obtain ⟨hx, hB⟩ := And.intro Bd.exec Bd.bytes
  have hml : c.maxLocals = 1 := hml0
  have hown : s.vm.findClass "java/util/ArrayDeque" = some m.cls := findClass_of_methodNamed Bd.named
  have hnm := (name_of_methodNamed Bd.named Bd.method).1
  have X : Stand p l e own_room_12 s m #[(.ref a)] below meth c T [] 0 0 := Stand.of_body Bd
  have eT : T.heap = h0 := by rw [← hh, Bd.state]; rfl
  have W := @own_Wd a0 Z hw
  have N := Fr.nil n0
  have O := hO
  have K := Keep.refl h0 [a]
  refine own_enter (ef_12 m a) ?_
  show own_Goes _ _ _ _ (own_P s (own_Q_12 Z dc kd cr cc mr a h0 n0) own_room_12.cells own_room_12.slots)
  refine o_aloadN X hx hB d12_0 rfl rfl ?_
  refine own_kP0 (own_csp X hx hZ hB (W := 0) hown rfl (W 81 rfl) (W 13 rfl) (W 17 rfl) (W 16 rfl) (by decide) (rm_3 l Z a0 hw [] dc kd cr cc mr hG a _ n0 (own_zO O) O) (by decide) (by decide) eT hml rfl pd_0 rfl rfl rfl d12_1 (by decide) (by decide)) rfl rfl fun T X eT => ?_
  refine o_aloadN X hx hB d12_4 rfl rfl ?_
  refine o_bipush X hx hB d12_5 (17) ?_
  obtain ⟨T, h1, b7, k_b7, X, e1, E1, g1, V_b7, st⟩ := own_newR X hx hZ hown (W 83 rfl) (W 66 rfl) eT (g := (mkF m 7 #[.val (.ref a)] [(.int (17 : Int32)), (.ref a)])) rfl (hb hB d12_7) rfl 17 (by decide) (by decide) (by decide) (by decide) (by decide)
  have g_b7 := own_gn O g1
  have sz_b7 := own_gz K g1
  have K := K.ext E1
  have O := O.ext E1
  refine own_step (st) ?_
  show own_Goes p.tables e below (T.setTop (mkF m 10 #[.val (.ref a)] [(.ref b7), (.ref a)])) _
  have f2 := E_a.ext E1
  have f3 := F_elements_a.ext E1
  refine o_putF X hx hZ hB hown (W 84 rfl) Via.refl e1 f3 f2 (Or.inl (W 85 rfl)) (W 76 rfl) (ty := (.array (.object "java/lang/Object"))) (by decide) rfl rfl d12_10 fun T h4 X eT W4 => ?_
  have N := Fr.snoc X N g_a
  have K := K.wr W4 (Or.inl (List.mem_of_getElem? (i := 0) rfl))
  have O := O.wr W4 g_a
  have f5 := f2.wr W4
  have f6 := f3.same W4
  have f7 := (F_head_a.ext E1).other W4 (Or.inr (slot_ne (Or.inl (W 127 rfl)) (Or.inl (W 85 rfl)) (by decide) (t := .int) (t' := (.array (.object "java/lang/Object"))) (by decide) (by decide)))
  have f8 := (F_tail_a.ext E1).other W4 (Or.inr (slot_ne (Or.inl (W 124 rfl)) (Or.inl (W 85 rfl)) (by decide) (t := .int) (t' := (.array (.object "java/lang/Object"))) (by decide) (by decide)))
  have z9 := own_ne1 E_a.lt g1
  have f10 := V_b7.other W4 (Ne.symm z9)
  exact own_retV X hx Bd.returns (hb hB d12_13) (BodyLoose.notSynchronized Bd) (by rw [eT]; exact ⟨b7, k_b7, rfl, N, K, f5, f6, f7, f8, f10, sz_b7, z9⟩) (by decide) (by decide)
theorem d14_0 : decode prog_17_method_1_code 0 = .ok (.aload_n 0, 1) := by decide +kernel
theorem d14_1 : decode prog_17_method_1_code 1 = .ok (.invokespecial 1, 3) := by decide +kernel
theorem d14_4 : decode prog_17_method_1_code 4 = .ok (.aload_n 0, 1) := by decide +kernel
theorem d14_5 : decode prog_17_method_1_code 5 = .ok (.lload_n 1, 1) := by decide +kernel
theorem d14_6 : decode prog_17_method_1_code 6 = .ok (.putfield 7, 3) := by decide +kernel
theorem d14_9 : decode prog_17_method_1_code 9 = .ok (.aload_n 0, 1) := by decide +kernel
theorem d14_10 : decode prog_17_method_1_code 10 = .ok (.aload_n 3, 1) := by decide +kernel
theorem d14_11 : decode prog_17_method_1_code 11 = .ok (.putfield 13, 3) := by decide +kernel
theorem d14_14 : decode prog_17_method_1_code 14 = .ok (.return_, 1) := by decide +kernel
theorem pn_14 : plainName "com/example/sandpiper/sandpiper/broker/AwaitingSync$Batch" = true := by first | (simp [plainName, overriddenIn]; done) | decide +kernel
theorem ef_14 (m : MethodId) (a : Addr) (q : Int64) (r : Addr) : entryFrame m #[(.ref a), (.long q), (.ref r)] 4 = mkF m 0 #[.val (.ref a), .val (.long q), .second, .val (.ref r)] [] := by first | (simp [entryFrame, mkF, argsToLocals, Value.category]; done) | rfl
abbrev own_room_14 : Room := { frames := 2, cells := 0, slots := 0, locals := 24 }
def own_Q_14 (Z : State) (dc : Addr) (kd : ClassId) (cr : Addr) (cc : Cell) (mr : Addr) (a : Addr) (q : Int64) (r : Addr) (h0 : Heap) (n0 : Nat) (v : Option Value) (h : Heap) (L : List Loc) : Prop := v = none ∧ Fr n0 L ∧ Keep h0 h [a] ∧ Exa Z h a "com/example/sandpiper/sandpiper/broker/AwaitingSync$Batch" ∧ Fld Z h a "com/example/sandpiper/sandpiper/broker/AwaitingSync$Batch" "lastWrite" "J" (.long q) ∧ Fld Z h a "com/example/sandpiper/sandpiper/broker/AwaitingSync$Batch" "kept" "Ljava/util/List;" (.ref r)
set_option maxRecDepth 65536 in
set_option maxHeartbeats 40000000 in
theorem rm_14 (l : Launch) (Z : State) (a0 : Array Value) (hw : own_Hw a0 Z) (ws : List Jvm.Cond) (dc : Addr) (kd : ClassId) (cr : Addr) (cc : Cell) (mr : Addr) (hG : own_G Z dc kd cr cc mr) (a : Addr) (q : Int64) (r : Addr) (h0 : Heap) (n0 : Nat) (Z0 : n0 ≤ h0.size) (hO : Old Z n0 h0) (E_a : Exa Z h0 a "com/example/sandpiper/sandpiper/broker/AwaitingSync$Batch") (F_lastWrite_a : Fld Z h0 a "com/example/sandpiper/sandpiper/broker/AwaitingSync$Batch" "lastWrite" "J" (.long (0 : Int64))) (F_kept_a : Fld Z h0 a "com/example/sandpiper/sandpiper/broker/AwaitingSync$Batch" "kept" "Ljava/util/List;" .null) (g_a : n0 ≤ a) :
    own_Met l (⟨"com/example/sandpiper/sandpiper/broker/AwaitingSync$Batch", "<init>", "(JLjava/util/List;)V"⟩ : MethodName) (Jvm.Cond.code (⟨"com/example/sandpiper/sandpiper/broker/AwaitingSync$Batch", "<init>", "(JLjava/util/List;)V"⟩ : MethodName) prog_17_method_1_code 4 none) ws own_room_14 #[(.ref a), (.long q), (.ref r)] Z h0 (own_Q_14 Z dc kd cr cc mr a q r h0 n0) own_room_14.cells own_room_14.slots := by
  refine MetFree.of_bodySF (plainFor_of_name pn_14) hisR ?_
  intro p e s m args below meth c T Bd hml0 hP hK
  obtain ⟨rfl, hZ, hh⟩ := hP
  obtain ⟨hx, hB⟩ := And.intro Bd.exec Bd.bytes
  have hml : c.maxLocals = 4 := hml0
  have hown : s.vm.findClass "com/example/sandpiper/sandpiper/broker/AwaitingSync$Batch" = some m.cls := findClass_of_methodNamed Bd.named
  have hnm := (name_of_methodNamed Bd.named Bd.method).1
  have X : Stand p l e own_room_14 s m #[(.ref a), (.long q), (.ref r)] below meth c T [] 0 0 := Stand.of_body Bd
  have eT : T.heap = h0 := by rw [← hh, Bd.state]; rfl
  have W := @own_Wd a0 Z hw
  have N := Fr.nil n0
  have O := hO
  have K := Keep.refl h0 [a]
  refine own_enter (ef_14 m a q r) ?_
  show own_Goes _ _ _ _ (own_P s (own_Q_14 Z dc kd cr cc mr a q r h0 n0) own_room_14.cells own_room_14.slots)
  refine o_aloadN X hx hB d14_0 rfl rfl ?_
  refine own_kP0 (own_csp X hx hZ hB (W := 0) hown rfl (W 99 rfl) (W 100 rfl) (W 103 rfl) (W 102 rfl) (by decide) (rm_15 l Z a0 hw [] dc kd cr cc mr hG a _ n0 (own_zO O) O) (by decide) (by decide) eT hml rfl pd_0 rfl rfl rfl d14_1 (by decide) (by decide)) rfl rfl fun T X eT => ?_
  refine o_aloadN X hx hB d14_4 rfl rfl ?_
  refine o_lloadN X hx hB d14_5 rfl ?_
  refine o_putF X hx hZ hB hown (W 105 rfl) Via.refl eT F_lastWrite_a E_a (Or.inr ⟨(W 106 rfl), rfl, hnm⟩) (W 94 rfl) (ty := .long) (by decide) rfl rfl d14_6 fun T h1 X eT W1 => ?_
  have N := Fr.snoc X N g_a
  have K := K.wr W1 (Or.inl (List.mem_of_getElem? (i := 0) rfl))
  have O := O.wr W1 g_a
  refine o_aloadN X hx hB d14_9 rfl rfl ?_
  refine o_aloadN X hx hB d14_10 rfl rfl ?_
  have f2 := E_a.wr W1
  have f3 := F_kept_a.other W1 (Or.inr (slot_ne (Or.inr (W 108 rfl)) (Or.inr (W 106 rfl)) (by decide) (t := (.object "java/util/List")) (t' := .long) (by decide) (by decide)))
  refine o_putF X hx hZ hB hown (W 107 rfl) Via.refl eT f3 f2 (Or.inr ⟨(W 108 rfl), rfl, hnm⟩) (W 94 rfl) (ty := (.object "java/util/List")) (by decide) rfl rfl d14_11 fun T h4 X eT W4 => ?_
  have N := Fr.snoc X N g_a
  have K := K.wr W4 (Or.inl (List.mem_of_getElem? (i := 0) rfl))
  have O := O.wr W4 g_a
  have f5 := f2.wr W4
  have f6 := (F_lastWrite_a.same W1).other W4 (Or.inr (slot_ne (Or.inr (W 106 rfl)) (Or.inr (W 108 rfl)) (by decide) (t := .long) (t' := (.object "java/util/List")) (by decide) (by decide)))
  have f7 := f3.same W4
  exact own_retV X hx Bd.returns (hb hB d14_14) (BodyLoose.notSynchronized Bd) (by rw [eT]; exact ⟨rfl, N, K, f5, f6, f7⟩) (by decide) (by decide)
theorem d11_0 : decode prog_16_method_1_code 0 = .ok (.aload_n 0, 1) := by decide +kernel
theorem d11_1 : decode prog_16_method_1_code 1 = .ok (.invokespecial 1, 3) := by decide +kernel
theorem d11_4 : decode prog_16_method_1_code 4 = .ok (.aload_n 0, 1) := by decide +kernel
theorem d11_5 : decode prog_16_method_1_code 5 = .ok (.new 7, 3) := by decide +kernel
theorem d11_8 : decode prog_16_method_1_code 8 = .ok (.dup, 1) := by decide +kernel
theorem d11_9 : decode prog_16_method_1_code 9 = .ok (.invokespecial 9, 3) := by decide +kernel
theorem d11_12 : decode prog_16_method_1_code 12 = .ok (.putfield 10, 3) := by decide +kernel
theorem d11_15 : decode prog_16_method_1_code 15 = .ok (.return_, 1) := by decide +kernel
theorem pn_11 : plainName "com/example/sandpiper/sandpiper/broker/AwaitingSync" = true := by first | (simp [plainName, overriddenIn]; done) | decide +kernel
theorem ef_11 (m : MethodId) (a : Addr) : entryFrame m #[(.ref a)] 1 = mkF m 0 #[.val (.ref a)] [] := by first | (simp [entryFrame, mkF, argsToLocals, Value.category]; done) | rfl
abbrev own_room_11 : Room := { frames := 3, cells := 2, slots := 20, locals := 38 }
def own_Q_11 (Z : State) (dc : Addr) (kd : ClassId) (cr : Addr) (cc : Cell) (mr : Addr) (a : Addr) (h0 : Heap) (n0 : Nat) (v : Option Value) (h : Heap) (L : List Loc) : Prop := ∃ d : Addr, ∃ ea : Addr, ∃ k : ClassId, v = none ∧ Fr n0 L ∧ Keep h0 h [a] ∧ Exa Z h a "com/example/sandpiper/sandpiper/broker/AwaitingSync" ∧ Fld Z h a "com/example/sandpiper/sandpiper/broker/AwaitingSync" "batches" "Ljava/util/Deque;" (.ref d) ∧ Exa Z h d "java/util/ArrayDeque" ∧ Fld Z h d "java/util/ArrayDeque" "elements" "[Ljava/lang/Object;" (.ref ea) ∧ Fld Z h d "java/util/ArrayDeque" "head" "I" (.int (0 : Int32)) ∧ Fld Z h d "java/util/ArrayDeque" "tail" "I" (.int (0 : Int32)) ∧ own_AR Z h ea k (17 : Int32) (List.replicate 17 .null) ∧ h0.size ≤ d ∧ h0.size ≤ ea
set_option maxRecDepth 65536 in
set_option maxHeartbeats 40000000 in
theorem rm_11 (l : Launch) (Z : State) (a0 : Array Value) (hw : own_Hw a0 Z) (ws : List Jvm.Cond) (dc : Addr) (kd : ClassId) (cr : Addr) (cc : Cell) (mr : Addr) (hG : own_G Z dc kd cr cc mr) (a : Addr) (h0 : Heap) (n0 : Nat) (Z0 : n0 ≤ h0.size) (hO : Old Z n0 h0) (E_a : Exa Z h0 a "com/example/sandpiper/sandpiper/broker/AwaitingSync") (F_batches_a : Fld Z h0 a "com/example/sandpiper/sandpiper/broker/AwaitingSync" "batches" "Ljava/util/Deque;" .null) (g_a : n0 ≤ a) :
    own_Met l (⟨"com/example/sandpiper/sandpiper/broker/AwaitingSync", "<init>", "()V"⟩ : MethodName) (Jvm.Cond.code (⟨"com/example/sandpiper/sandpiper/broker/AwaitingSync", "<init>", "()V"⟩ : MethodName) prog_16_method_1_code 1 none) ws own_room_11 #[(.ref a)] Z h0 (own_Q_11 Z dc kd cr cc mr a h0 n0) own_room_11.cells own_room_11.slots := by
  refine MetFree.of_bodySF (plainFor_of_name pn_11) hisR ?_
  intro p e s m args below meth c T Bd hml0 hP hK
  obtain ⟨rfl, hZ, hh⟩ := hP
  obtain ⟨hx, hB⟩ := And.intro Bd.exec Bd.bytes
  have hml : c.maxLocals = 1 := hml0
  have hown : s.vm.findClass "com/example/sandpiper/sandpiper/broker/AwaitingSync" = some m.cls := findClass_of_methodNamed Bd.named
  have hnm := (name_of_methodNamed Bd.named Bd.method).1
  have X : Stand p l e own_room_11 s m #[(.ref a)] below meth c T [] 0 0 := Stand.of_body Bd
  have eT : T.heap = h0 := by rw [← hh, Bd.state]; rfl
  have W := @own_Wd a0 Z hw
  have N := Fr.nil n0
  have O := hO
  have K := Keep.refl h0 [a]
  refine own_enter (ef_11 m a) ?_
  show own_Goes _ _ _ _ (own_P s (own_Q_11 Z dc kd cr cc mr a h0 n0) own_room_11.cells own_room_11.slots)
  refine o_aloadN X hx hB d11_0 rfl rfl ?_
  refine o_initO X hx hZ hB hown (W 74 rfl) (W 19 rfl) (W 20 rfl) eT hml rfl d11_1 (by decide) (by decide) fun T X eT => ?_
  refine o_aloadN X hx hB d11_4 rfl rfl ?_
  refine o_new X hx hZ hB hown (W 75 rfl) (W 76 rfl) (W 77 rfl) eT d11_5 (by decide) (by decide) fun T h1 b5 g1 X eT E1 A1 D1 => ?_
  have g_b5 := own_gn O g1
  have sz_b5 := own_gz K g1
  have K := K.ext E1
  have O := O.ext E1
  refine o_dup X hx hB d11_8 rfl ?_
  have f2 := D1 (Or.inl (W 85 rfl)) (ty := (.array (.object "java/lang/Object"))) (by decide)
  have f3 := D1 (Or.inl (W 127 rfl)) (ty := .int) (by decide)
  have f4 := D1 (Or.inl (W 124 rfl)) (ty := .int) (by decide)
  refine own_kQ (own_csp X hx hZ hB (W := 2) hown rfl (W 78 rfl) (W 79 rfl) (W 80 rfl) (W 77 rfl) (by decide) (rm_12 l Z a0 hw [] dc kd cr cc mr hG b5 _ n0 (own_zO O) O A1 f2 f3 f4 g_b5) (by decide) (by decide) eT hml rfl pd_0 rfl rfl rfl d11_9 (by decide) (by decide)) fun v T L5 hQ X => ?_
  obtain ⟨ea_9, k_9, rfl, Nq5, Kq5, t5_0, t5_1, t5_2, t5_3, t5_4, t5_5, t5_6⟩ := hQ
  have g_ea_9 := Nat.le_trans (own_zO O) t5_5
  have sz_ea_9 := Nat.le_trans K.1 t5_5
  have N := Fr.app N Nq5
  have K := K.trans Kq5 (allS (Or.inr sz_b5) all0)
  have O := O.keep Kq5 (allS g_b5 all0)
  have f6 := (E_a.ext E1).keep Kq5
  have z7 := own_ne1 E_a.lt g1
  have f8 := (F_batches_a.ext E1).keep Kq5 (ninS z7 nin0)
  refine o_putF X hx hZ hB hown (W 86 rfl) Via.refl rfl f8 f6 (Or.inr ⟨(W 87 rfl), rfl, hnm⟩) (W 69 rfl) (ty := (.object "java/util/Deque")) (by decide) rfl rfl d11_12 fun T h9 X eT W9 => ?_
  have N := Fr.snoc X N g_a
  have K := K.wr W9 (Or.inl (List.mem_of_getElem? (i := 0) rfl))
  have O := O.wr W9 g_a
  have f10 := f6.wr W9
  have f11 := f8.same W9
  have f12 := t5_0.wr W9
  have f13 := t5_1.other W9 (Or.inl (Ne.symm z7))
  have f14 := t5_2.other W9 (Or.inl (Ne.symm z7))
  have f15 := t5_3.other W9 (Or.inl (Ne.symm z7))
  have z16 := own_ne2 (E_a.ext E1).lt t5_5
  have f17 := t5_4.other W9 (Ne.symm z16)
  exact own_retV X hx Bd.returns (hb hB d11_15) (BodyLoose.notSynchronized Bd) (by rw [eT]; exact ⟨b5, ea_9, k_9, rfl, N, K, f10, f11, f12, f13, f14, f15, f17, sz_b5, sz_ea_9⟩) (by decide) (by decide)
theorem d18_0 : decode jdk_21_method_6_code 0 = .ok (.iinc 0 1, 3) := by decide +kernel
theorem d18_3 : decode jdk_21_method_6_code 3 = .ok (.iload_n 0, 1) := by decide +kernel
theorem d18_4 : decode jdk_21_method_6_code 4 = .ok (.iload_n 1, 1) := by decide +kernel
theorem d18_5 : decode jdk_21_method_6_code 5 = .ok (.if_icmp .lt 5, 3) := by decide +kernel
theorem d18_10 : decode jdk_21_method_6_code 10 = .ok (.iload_n 0, 1) := by decide +kernel
theorem d18_11 : decode jdk_21_method_6_code 11 = .ok (.ireturn, 1) := by decide +kernel
theorem pn_18 : plainName "java/util/ArrayDeque" = true := by first | (simp [plainName, overriddenIn]; done) | decide +kernel
theorem ef_18 (m : MethodId) (i : Int32) (n : Int32) : entryFrame m #[(.int i), (.int n)] 2 = mkF m 0 #[.val (.int i), .val (.int n)] [] := by first | (simp [entryFrame, mkF, argsToLocals, Value.category]; done) | rfl
abbrev own_room_18 : Room := { frames := 0, cells := 0, slots := 0, locals := 0 }
set_option maxRecDepth 65536 in
set_option maxHeartbeats 40000000 in
theorem rm_18 (l : Launch) (Z : State) (a0 : Array Value) (hw : own_Hw a0 Z) (ws : List Jvm.Cond) (dc : Addr) (kd : ClassId) (cr : Addr) (cc : Cell) (mr : Addr) (hG : own_G Z dc kd cr cc mr) (i n : Int32) (h0 : Heap) (n0 : Nat) (Z0 : n0 ≤ h0.size) (hO : Old Z n0 h0) (h : (i + (1 : Int32)) < n) :
    own_Met l (⟨"java/util/ArrayDeque", "inc", "(II)I"⟩ : MethodName) (Jvm.Cond.code (⟨"java/util/ArrayDeque", "inc", "(II)I"⟩ : MethodName) jdk_21_method_6_code 2 (some .int)) ws own_room_18 #[(.int i), (.int n)] Z h0 (own_Qp (some (.int (i + (1 : Int32)))) h0) own_room_18.cells own_room_18.slots := by
  refine MetFree.of_bodySF (plainFor_of_name pn_18) hisR ?_
  intro p e s m args below meth c T Bd hml0 hP hK
  obtain ⟨rfl, hZ, hh⟩ := hP
  obtain ⟨hx, hB⟩ := And.intro Bd.exec Bd.bytes
  have hml : c.maxLocals = 2 := hml0
  have hown : s.vm.findClass "java/util/ArrayDeque" = some m.cls := findClass_of_methodNamed Bd.named
  have hnm := (name_of_methodNamed Bd.named Bd.method).1
  have X : Stand p l e own_room_18 s m #[(.int i), (.int n)] below meth c T [] 0 0 := Stand.of_body Bd
  have eT : T.heap = h0 := by rw [← hh, Bd.state]; rfl
  have W := @own_Wd a0 Z hw
  have N := Fr.nil n0
  have O := hO
  refine own_enter (ef_18 m i n) ?_
  show own_Goes _ _ _ _ (own_P s (own_Qp (some (.int (i + (1 : Int32)))) h0) own_room_18.cells own_room_18.slots)
  refine own_step (fun _ => XS.iinc X.here hx rfl (hb hB d18_0) rfl (l' := #[.val (.int (i + (1 : Int32))), .val (.int n)]) rfl) ?_
  show own_Goes p.tables e below (T.setTop (mkF m 3 #[.val (.int (i + (1 : Int32))), .val (.int n)] [])) _
  refine o_iloadN X hx hB d18_3 rfl ?_
  refine o_iloadN X hx hB d18_4 rfl ?_
  refine o_icmpYes X hx hB d18_5 (Jvm.Free.XT.ii_lt_t h) 10 ?_
  refine o_iloadN X hx hB d18_10 rfl ?_
  exact own_retI X hx Bd.returns (hb hB d18_11) (BodyLoose.notSynchronized Bd) ⟨rfl, rfl, eT⟩ (by decide) (by decide)
theorem d17_0 : decode jdk_21_method_13_code 0 = .ok (.aload_n 1, 1) := by decide +kernel
theorem d17_1 : decode jdk_21_method_13_code 1 = .ok (.ifnonnull 11, 3) := by decide +kernel
theorem d17_12 : decode jdk_21_method_13_code 12 = .ok (.aload_n 0, 1) := by decide +kernel
theorem d17_13 : decode jdk_21_method_13_code 13 = .ok (.getfield 3, 3) := by decide +kernel
theorem d17_16 : decode jdk_21_method_13_code 16 = .ok (.astore_n 2, 1) := by decide +kernel
theorem d17_17 : decode jdk_21_method_13_code 17 = .ok (.aload_n 2, 1) := by decide +kernel
theorem d17_18 : decode jdk_21_method_13_code 18 = .ok (.aload_n 0, 1) := by decide +kernel
theorem d17_19 : decode jdk_21_method_13_code 19 = .ok (.getfield 20, 3) := by decide +kernel
theorem d17_22 : decode jdk_21_method_13_code 22 = .ok (.aload_n 1, 1) := by decide +kernel
theorem d17_23 : decode jdk_21_method_13_code 23 = .ok (.aastore, 1) := by decide +kernel
theorem d17_24 : decode jdk_21_method_13_code 24 = .ok (.aload_n 0, 1) := by decide +kernel
theorem d17_25 : decode jdk_21_method_13_code 25 = .ok (.getfield 24, 3) := by decide +kernel
theorem d17_28 : decode jdk_21_method_13_code 28 = .ok (.aload_n 0, 1) := by decide +kernel
theorem d17_29 : decode jdk_21_method_13_code 29 = .ok (.aload_n 0, 1) := by decide +kernel
theorem d17_30 : decode jdk_21_method_13_code 30 = .ok (.getfield 20, 3) := by decide +kernel
theorem d17_33 : decode jdk_21_method_13_code 33 = .ok (.aload_n 2, 1) := by decide +kernel
theorem d17_34 : decode jdk_21_method_13_code 34 = .ok (.arraylength, 1) := by decide +kernel
theorem d17_35 : decode jdk_21_method_13_code 35 = .ok (.invokestatic 74, 3) := by decide +kernel
theorem d17_38 : decode jdk_21_method_13_code 38 = .ok (.dup_x1, 1) := by decide +kernel
theorem d17_39 : decode jdk_21_method_13_code 39 = .ok (.putfield 20, 3) := by decide +kernel
theorem d17_42 : decode jdk_21_method_13_code 42 = .ok (.if_icmp .ne 8, 3) := by decide +kernel
theorem d17_50 : decode jdk_21_method_13_code 50 = .ok (.return_, 1) := by decide +kernel
theorem pn_17 : plainName "java/util/ArrayDeque" = true := by first | (simp [plainName, overriddenIn]; done) | decide +kernel
theorem ef_17 (m : MethodId) (a : Addr) (x : Addr) : entryFrame m #[(.ref a), (.ref x)] 3 = mkF m 0 #[.val (.ref a), .val (.ref x), .unset] [] := by first | (simp [entryFrame, mkF, argsToLocals, Value.category]; done) | rfl
abbrev own_room_17 : Room := { frames := 1, cells := 0, slots := 0, locals := 15 }
def own_Q_17 (Z : State) (dc : Addr) (kd : ClassId) (cr : Addr) (cc : Cell) (mr : Addr) (a x ea : Addr) (k : ClassId) (vs : List Value) (hd tl : Int32) (h0 : Heap) (n0 : Nat) (v : Option Value) (h : Heap) (L : List Loc) : Prop := v = none ∧ Fr n0 L ∧ Keep h0 h [a, ea] ∧ Exa Z h a "java/util/ArrayDeque" ∧ Fld Z h a "java/util/ArrayDeque" "elements" "[Ljava/lang/Object;" (.ref ea) ∧ Fld Z h a "java/util/ArrayDeque" "head" "I" (.int hd) ∧ Fld Z h a "java/util/ArrayDeque" "tail" "I" (.int (tl + (1 : Int32))) ∧ own_AR Z h ea k (17 : Int32) (vs.set tl.toNatClampNeg (.ref x)) ∧ a ≠ ea ∧ Exa Z h x "com/example/sandpiper/sandpiper/broker/AwaitingSync$Batch"
set_option maxRecDepth 65536 in
set_option maxHeartbeats 40000000 in
theorem rm_17 (l : Launch) (Z : State) (a0 : Array Value) (hw : own_Hw a0 Z) (ws : List Jvm.Cond) (dc : Addr) (kd : ClassId) (cr : Addr) (cc : Cell) (mr : Addr) (hG : own_G Z dc kd cr cc mr) (a x ea : Addr) (k : ClassId) (vs : List Value) (hd tl : Int32) (h0 : Heap) (n0 : Nat) (Z0 : n0 ≤ h0.size) (hO : Old Z n0 h0) (E_a : Exa Z h0 a "java/util/ArrayDeque") (F_elements_a : Fld Z h0 a "java/util/ArrayDeque" "elements" "[Ljava/lang/Object;" (.ref ea)) (F_head_a : Fld Z h0 a "java/util/ArrayDeque" "head" "I" (.int hd)) (F_tail_a : Fld Z h0 a "java/util/ArrayDeque" "tail" "I" (.int tl)) (V_ea : own_AR Z h0 ea k (17 : Int32) vs) (ne_a_ea : a ≠ ea) (E_x : Exa Z h0 x "com/example/sandpiper/sandpiper/broker/AwaitingSync$Batch") (g_a : n0 ≤ a) (g_ea : n0 ≤ ea) (htl : ¬ tl < 0 ∧ tl < (17 : Int32)) (hinc : (tl + (1 : Int32)) < (17 : Int32)) (hnf : ¬ (hd = (tl + (1 : Int32)))) :
    own_Met l (⟨"java/util/ArrayDeque", "addLast", "(Ljava/lang/Object;)V"⟩ : MethodName) (Jvm.Cond.code (⟨"java/util/ArrayDeque", "addLast", "(Ljava/lang/Object;)V"⟩ : MethodName) jdk_21_method_13_code 3 none) ws own_room_17 #[(.ref a), (.ref x)] Z h0 (own_Q_17 Z dc kd cr cc mr a x ea k vs hd tl h0 n0) own_room_17.cells own_room_17.slots := by
  refine MetFree.of_bodySF (plainFor_of_name pn_17) hisR ?_
  intro p e s m args below meth c T Bd hml0 hP hK
  obtain ⟨rfl, hZ, hh⟩ := hP
  obtain ⟨hx, hB⟩ := And.intro Bd.exec Bd.bytes
  have hml : c.maxLocals = 3 := hml0
  have hown : s.vm.findClass "java/util/ArrayDeque" = some m.cls := findClass_of_methodNamed Bd.named
  have hnm := (name_of_methodNamed Bd.named Bd.method).1
  have X : Stand p l e own_room_17 s m #[(.ref a), (.ref x)] below meth c T [] 0 0 := Stand.of_body Bd
  have eT : T.heap = h0 := by rw [← hh, Bd.state]; rfl
  have W := @own_Wd a0 Z hw
  have N := Fr.nil n0
  have O := hO
  have K := Keep.refl h0 [a, ea]
  refine own_enter (ef_17 m a x) ?_
  show own_Goes _ _ _ _ (own_P s (own_Q_17 Z dc kd cr cc mr a x ea k vs hd tl h0 n0) own_room_17.cells own_room_17.slots)
  refine o_aloadN X hx hB d17_0 rfl rfl ?_
  refine own_step (fun _ => Jvm.Free.XT.ifnonnullYes X.here hx rfl (pc0 := 1) (pc' := 12) rfl (hb hB d17_1) rfl (by decide) (by decide)) ?_
  show own_Goes p.tables e below (T.setTop (mkF m 12 #[.val (.ref a), .val (.ref x), .unset] [])) _
  refine o_aloadN X hx hB d17_12 rfl rfl ?_
  refine o_getF X hx hZ hB hown (W 84 rfl) Via.refl eT F_elements_a d17_13 fun T X eT => ?_
  refine o_astoreN X hx hB #[.val (.ref a), .val (.ref x), .val (.ref ea)] d17_16 rfl rfl ?_
  refine o_aloadN X hx hB d17_17 rfl rfl ?_
  refine o_aloadN X hx hB d17_18 rfl rfl ?_
  refine o_getF X hx hZ hB hown (W 123 rfl) Via.refl eT F_tail_a d17_19 fun T X eT => ?_
  refine o_aloadN X hx hB d17_22 rfl rfl ?_
  obtain ⟨T, h1, L1, X, e1, Nq1, V1, W1, st⟩ := own_stR X hx hZ eT V_ea (j := tl) htl (Or.inr ⟨_, rfl, Ins.of_exa E_x (W 125 rfl)⟩) (g := (mkF m 23 #[.val (.ref a), .val (.ref x), .val (.ref ea)] [(.ref x), (.int tl), (.ref ea)])) rfl rfl (hb hB d17_23)
  have N := Nq1 n0 N g_ea
  have K := K.wr W1 (Or.inl (List.mem_of_getElem? (i := 1) rfl))
  have O := O.wr W1 g_ea
  refine own_step (st) ?_
  show own_Goes p.tables e below (T.setTop (mkF m 24 #[.val (.ref a), .val (.ref x), .val (.ref ea)] [])) _
  refine o_aloadN X hx hB d17_24 rfl rfl ?_
  have f2 := F_head_a.other W1 (Or.inl ne_a_ea)
  refine o_getF X hx hZ hB hown (W 126 rfl) Via.refl e1 f2 d17_25 fun T X eT => ?_
  refine o_aloadN X hx hB d17_28 rfl rfl ?_
  refine o_aloadN X hx hB d17_29 rfl rfl ?_
  have f3 := F_tail_a.other W1 (Or.inl ne_a_ea)
  refine o_getF X hx hZ hB hown (W 123 rfl) Via.refl eT f3 d17_30 fun T X eT => ?_
  refine o_aloadN X hx hB d17_33 rfl rfl ?_
  refine own_step (own_lenR X hx hZ eT V1 (g := (mkF m 34 #[.val (.ref a), .val (.ref x), .val (.ref ea)] [(.ref ea), (.int tl), (.ref a), (.int hd)])) rfl rfl (hb hB d17_34)) ?_
  show own_Goes p.tables e below (T.setTop (mkF m 35 #[.val (.ref a), .val (.ref x), .val (.ref ea)] [(.int (17 : Int32)), (.int tl), (.ref a), (.int hd)])) _
  refine own_kP (own_cst X hx hZ hB (W := 2) hown (W 128 rfl) (W 129 rfl) (W 130 rfl) (W 77 rfl) (by decide) (rm_18 l Z a0 hw [] dc kd cr cc mr hG tl (17 : Int32) _ n0 (own_zO O) O hinc) (by decide) (by decide) eT hml rfl pd_1 rfl rfl rfl d17_35 (by decide) (by decide)) rfl rfl fun T X eT => ?_
  refine own_step (fun _ => Jvm.Free.XT.dupX1 X.here hx rfl (hb hB d17_38) rfl rfl rfl) ?_
  show own_Goes p.tables e below (T.setTop (mkF m 39 #[.val (.ref a), .val (.ref x), .val (.ref ea)] [(.int (tl + (1 : Int32))), (.ref a), (.int (tl + (1 : Int32))), (.int hd)])) _
  have f4 := E_a.wr W1
  refine o_putF X hx hZ hB hown (W 123 rfl) Via.refl eT f3 f4 (Or.inl (W 124 rfl)) (W 76 rfl) (ty := .int) (by decide) rfl rfl d17_39 fun T h5 X eT W5 => ?_
  have N := Fr.snoc X N g_a
  have K := K.wr W5 (Or.inl (List.mem_of_getElem? (i := 0) rfl))
  have O := O.wr W5 g_a
  refine o_icmpYes X hx hB d17_42 (Jvm.Free.XT.ii_ne_t hnf) 50 ?_
  have f6 := f4.wr W5
  have f7 := (F_elements_a.other W1 (Or.inl ne_a_ea)).other W5 (Or.inr (slot_ne (Or.inl (W 85 rfl)) (Or.inl (W 124 rfl)) (by decide) (t := (.array (.object "java/lang/Object"))) (t' := .int) (by decide) (by decide)))
  have f8 := f2.other W5 (Or.inr (slot_ne (Or.inl (W 127 rfl)) (Or.inl (W 124 rfl)) (by decide) (t := .int) (t' := .int) (by decide) (by decide)))
  have f9 := f3.same W5
  have f10 := V1.other W5 (Ne.symm ne_a_ea)
  have f11 := (E_x.wr W1).wr W5
  exact own_retV X hx Bd.returns (hb hB d17_50) (BodyLoose.notSynchronized Bd) (by rw [eT]; exact ⟨rfl, N, K, f6, f7, f8, f9, f10, ne_a_ea, f11⟩) (by decide) (by decide)
theorem d16_0 : decode jdk_21_method_28_code 0 = .ok (.aload_n 0, 1) := by decide +kernel
theorem d16_1 : decode jdk_21_method_28_code 1 = .ok (.aload_n 1, 1) := by decide +kernel
theorem d16_2 : decode jdk_21_method_28_code 2 = .ok (.invokevirtual 90, 3) := by decide +kernel
theorem d16_5 : decode jdk_21_method_28_code 5 = .ok (.iconst 1, 1) := by decide +kernel
theorem d16_6 : decode jdk_21_method_28_code 6 = .ok (.ireturn, 1) := by decide +kernel
theorem pd_5 : parseMethodDescriptor "(Ljava/lang/Object;)V" = some ⟨[(.object "java/lang/Object")], none⟩ := by decide +kernel
theorem pn_16 : plainName "java/util/ArrayDeque" = true := by first | (simp [plainName, overriddenIn]; done) | decide +kernel
theorem ef_16 (m : MethodId) (a : Addr) (x : Addr) : entryFrame m #[(.ref a), (.ref x)] 2 = mkF m 0 #[.val (.ref a), .val (.ref x)] [] := by first | (simp [entryFrame, mkF, argsToLocals, Value.category]; done) | rfl
abbrev own_room_16 : Room := { frames := 2, cells := 0, slots := 0, locals := 29 }
def own_Q_16 (Z : State) (dc : Addr) (kd : ClassId) (cr : Addr) (cc : Cell) (mr : Addr) (a x ea : Addr) (k : ClassId) (vs : List Value) (hd tl : Int32) (h0 : Heap) (n0 : Nat) (v : Option Value) (h : Heap) (L : List Loc) : Prop := v = (some (.int (1 : Int32))) ∧ Fr n0 L ∧ Keep h0 h [a, ea] ∧ Exa Z h a "java/util/ArrayDeque" ∧ Fld Z h a "java/util/ArrayDeque" "elements" "[Ljava/lang/Object;" (.ref ea) ∧ Fld Z h a "java/util/ArrayDeque" "head" "I" (.int hd) ∧ Fld Z h a "java/util/ArrayDeque" "tail" "I" (.int (tl + (1 : Int32))) ∧ own_AR Z h ea k (17 : Int32) (vs.set tl.toNatClampNeg (.ref x)) ∧ a ≠ ea ∧ Exa Z h x "com/example/sandpiper/sandpiper/broker/AwaitingSync$Batch"
set_option maxRecDepth 65536 in
set_option maxHeartbeats 40000000 in
theorem rm_16 (l : Launch) (Z : State) (a0 : Array Value) (hw : own_Hw a0 Z) (ws : List Jvm.Cond) (dc : Addr) (kd : ClassId) (cr : Addr) (cc : Cell) (mr : Addr) (hG : own_G Z dc kd cr cc mr) (a x ea : Addr) (k : ClassId) (vs : List Value) (hd tl : Int32) (h0 : Heap) (n0 : Nat) (Z0 : n0 ≤ h0.size) (hO : Old Z n0 h0) (E_a : Exa Z h0 a "java/util/ArrayDeque") (F_elements_a : Fld Z h0 a "java/util/ArrayDeque" "elements" "[Ljava/lang/Object;" (.ref ea)) (F_head_a : Fld Z h0 a "java/util/ArrayDeque" "head" "I" (.int hd)) (F_tail_a : Fld Z h0 a "java/util/ArrayDeque" "tail" "I" (.int tl)) (V_ea : own_AR Z h0 ea k (17 : Int32) vs) (ne_a_ea : a ≠ ea) (E_x : Exa Z h0 x "com/example/sandpiper/sandpiper/broker/AwaitingSync$Batch") (g_a : n0 ≤ a) (g_ea : n0 ≤ ea) (htl : ¬ tl < 0 ∧ tl < (17 : Int32)) (hinc : (tl + (1 : Int32)) < (17 : Int32)) (hnf : ¬ (hd = (tl + (1 : Int32)))) :
    own_Met l (⟨"java/util/ArrayDeque", "add", "(Ljava/lang/Object;)Z"⟩ : MethodName) (Jvm.Cond.code (⟨"java/util/ArrayDeque", "add", "(Ljava/lang/Object;)Z"⟩ : MethodName) jdk_21_method_28_code 2 (some .boolean)) ws own_room_16 #[(.ref a), (.ref x)] Z h0 (own_Q_16 Z dc kd cr cc mr a x ea k vs hd tl h0 n0) own_room_16.cells own_room_16.slots := by
  refine MetFree.of_bodySF (plainFor_of_name pn_16) hisR ?_
  intro p e s m args below meth c T Bd hml0 hP hK
  obtain ⟨rfl, hZ, hh⟩ := hP
  obtain ⟨hx, hB⟩ := And.intro Bd.exec Bd.bytes
  have hml : c.maxLocals = 2 := hml0
  have hown : s.vm.findClass "java/util/ArrayDeque" = some m.cls := findClass_of_methodNamed Bd.named
  have hnm := (name_of_methodNamed Bd.named Bd.method).1
  have X : Stand p l e own_room_16 s m #[(.ref a), (.ref x)] below meth c T [] 0 0 := Stand.of_body Bd
  have eT : T.heap = h0 := by rw [← hh, Bd.state]; rfl
  have W := @own_Wd a0 Z hw
  have N := Fr.nil n0
  have O := hO
  have K := Keep.refl h0 [a, ea]
  refine own_enter (ef_16 m a x) ?_
  show own_Goes _ _ _ _ (own_P s (own_Q_16 Z dc kd cr cc mr a x ea k vs hd tl h0 n0) own_room_16.cells own_room_16.slots)
  refine o_aloadN X hx hB d16_0 rfl rfl ?_
  refine o_aloadN X hx hB d16_1 rfl rfl ?_
  refine own_kQ (own_cvi X hx hZ hB (W := 0) hown (W 118 rfl) (W 119 rfl) (W 121 rfl) (W 120 rfl) (W 122 rfl) (W 77 rfl) (by decide) (rm_17 l Z a0 hw [] dc kd cr cc mr hG a x ea k vs hd tl _ n0 (own_zO O) O E_a F_elements_a F_head_a F_tail_a V_ea ne_a_ea E_x g_a g_ea htl hinc hnf) (by decide) (by decide) eT E_a hml rfl pd_5 rfl rfl rfl d16_2 (by decide) (by decide)) fun v T L1 hQ X => ?_
  obtain ⟨rfl, Nq1, Kq1, t1_0, t1_1, t1_2, t1_3, t1_4, t1_5, t1_6⟩ := hQ
  have N := Fr.app N Nq1
  have K := K.trans Kq1 (allS (Or.inl (List.mem_of_getElem? (i := 0) rfl)) (allS (Or.inl (List.mem_of_getElem? (i := 1) rfl)) all0))
  have O := O.keep Kq1 (allS g_a (allS g_ea all0))
  refine o_iconst X hx hB d16_5 (1) ?_
  exact own_retN X hx (t := .boolean) Bd.returns (by simp) (hb hB d16_6) (BodyLoose.notSynchronized Bd) (w := (1 : Int32)) rfl ⟨rfl, N, K, t1_0, t1_1, t1_2, t1_3, t1_4, t1_5, t1_6⟩ (by decide) (by decide)
theorem d13_0 : decode prog_16_method_2_code 0 = .ok (.aload_n 0, 1) := by decide +kernel
theorem d13_1 : decode prog_16_method_2_code 1 = .ok (.getfield 10, 3) := by decide +kernel
theorem d13_4 : decode prog_16_method_2_code 4 = .ok (.new 16, 3) := by decide +kernel
theorem d13_7 : decode prog_16_method_2_code 7 = .ok (.dup, 1) := by decide +kernel
theorem d13_8 : decode prog_16_method_2_code 8 = .ok (.lload_n 1, 1) := by decide +kernel
theorem d13_9 : decode prog_16_method_2_code 9 = .ok (.aload_n 3, 1) := by decide +kernel
theorem d13_10 : decode prog_16_method_2_code 10 = .ok (.invokespecial 18, 3) := by decide +kernel
theorem d13_13 : decode prog_16_method_2_code 13 = .ok (.invokeinterface 21 2, 5) := by decide +kernel
theorem d13_18 : decode prog_16_method_2_code 18 = .ok (.pop, 1) := by decide +kernel
theorem d13_19 : decode prog_16_method_2_code 19 = .ok (.return_, 1) := by decide +kernel
theorem pd_6 : parseMethodDescriptor "(JLjava/util/List;)V" = some ⟨[.long, (.object "java/util/List")], none⟩ := by decide +kernel
theorem pd_7 : parseMethodDescriptor "(Ljava/lang/Object;)Z" = some ⟨[(.object "java/lang/Object")], some .boolean⟩ := by decide +kernel
theorem pn_13 : plainName "com/example/sandpiper/sandpiper/broker/AwaitingSync" = true := by first | (simp [plainName, overriddenIn]; done) | decide +kernel
theorem ef_13 (m : MethodId) (a : Addr) (q : Int64) (r : Addr) : entryFrame m #[(.ref a), (.long q), (.ref r)] 4 = mkF m 0 #[.val (.ref a), .val (.long q), .second, .val (.ref r)] [] := by first | (simp [entryFrame, mkF, argsToLocals, Value.category]; done) | rfl
abbrev own_room_13 : Room := { frames := 3, cells := 1, slots := 2, locals := 42 }
def own_Q_13 (Z : State) (dc : Addr) (kd : ClassId) (cr : Addr) (cc : Cell) (mr : Addr) (a : Addr) (q : Int64) (r d ea : Addr) (k : ClassId) (vs : List Value) (hd tl : Int32) (h0 : Heap) (n0 : Nat) (v : Option Value) (h : Heap) (L : List Loc) : Prop := ∃ x : Addr, v = none ∧ Fr n0 L ∧ Keep h0 h [d, ea] ∧ Exa Z h a "com/example/sandpiper/sandpiper/broker/AwaitingSync" ∧ Fld Z h a "com/example/sandpiper/sandpiper/broker/AwaitingSync" "batches" "Ljava/util/Deque;" (.ref d) ∧ Exa Z h d "java/util/ArrayDeque" ∧ Fld Z h d "java/util/ArrayDeque" "elements" "[Ljava/lang/Object;" (.ref ea) ∧ Fld Z h d "java/util/ArrayDeque" "head" "I" (.int hd) ∧ Fld Z h d "java/util/ArrayDeque" "tail" "I" (.int (tl + (1 : Int32))) ∧ own_AR Z h ea k (17 : Int32) (vs.set tl.toNatClampNeg (.ref x)) ∧ d ≠ ea ∧ Exa Z h x "com/example/sandpiper/sandpiper/broker/AwaitingSync$Batch" ∧ Fld Z h x "com/example/sandpiper/sandpiper/broker/AwaitingSync$Batch" "lastWrite" "J" (.long q) ∧ Fld Z h x "com/example/sandpiper/sandpiper/broker/AwaitingSync$Batch" "kept" "Ljava/util/List;" (.ref r) ∧ h0.size ≤ x
set_option maxRecDepth 65536 in
set_option maxHeartbeats 40000000 in
theorem rm_13 (l : Launch) (Z : State) (a0 : Array Value) (hw : own_Hw a0 Z) (ws : List Jvm.Cond) (dc : Addr) (kd : ClassId) (cr : Addr) (cc : Cell) (mr : Addr) (hG : own_G Z dc kd cr cc mr) (a : Addr) (q : Int64) (r d ea : Addr) (k : ClassId) (vs : List Value) (hd tl : Int32) (h0 : Heap) (n0 : Nat) (Z0 : n0 ≤ h0.size) (hO : Old Z n0 h0) (E_a : Exa Z h0 a "com/example/sandpiper/sandpiper/broker/AwaitingSync") (F_batches_a : Fld Z h0 a "com/example/sandpiper/sandpiper/broker/AwaitingSync" "batches" "Ljava/util/Deque;" (.ref d)) (E_d : Exa Z h0 d "java/util/ArrayDeque") (F_elements_d : Fld Z h0 d "java/util/ArrayDeque" "elements" "[Ljava/lang/Object;" (.ref ea)) (F_head_d : Fld Z h0 d "java/util/ArrayDeque" "head" "I" (.int hd)) (F_tail_d : Fld Z h0 d "java/util/ArrayDeque" "tail" "I" (.int tl)) (V_ea : own_AR Z h0 ea k (17 : Int32) vs) (ne_d_ea : d ≠ ea) (g_d : n0 ≤ d) (g_ea : n0 ≤ ea) (htl : ¬ tl < 0 ∧ tl < (17 : Int32)) (hinc : (tl + (1 : Int32)) < (17 : Int32)) (hnf : ¬ (hd = (tl + (1 : Int32)))) :
    own_Met l (⟨"com/example/sandpiper/sandpiper/broker/AwaitingSync", "add", "(JLjava/util/List;)V"⟩ : MethodName) (Jvm.Cond.code (⟨"com/example/sandpiper/sandpiper/broker/AwaitingSync", "add", "(JLjava/util/List;)V"⟩ : MethodName) prog_16_method_2_code 4 none) ws own_room_13 #[(.ref a), (.long q), (.ref r)] Z h0 (own_Q_13 Z dc kd cr cc mr a q r d ea k vs hd tl h0 n0) own_room_13.cells own_room_13.slots := by
  refine MetFree.of_bodySF (plainFor_of_name pn_13) hisR ?_
  intro p e s m args below meth c T Bd hml0 hP hK
  obtain ⟨rfl, hZ, hh⟩ := hP
  obtain ⟨hx, hB⟩ := And.intro Bd.exec Bd.bytes
  have hml : c.maxLocals = 4 := hml0
  have hown : s.vm.findClass "com/example/sandpiper/sandpiper/broker/AwaitingSync" = some m.cls := findClass_of_methodNamed Bd.named
  have hnm := (name_of_methodNamed Bd.named Bd.method).1
  have X : Stand p l e own_room_13 s m #[(.ref a), (.long q), (.ref r)] below meth c T [] 0 0 := Stand.of_body Bd
  have eT : T.heap = h0 := by rw [← hh, Bd.state]; rfl
  have W := @own_Wd a0 Z hw
  have N := Fr.nil n0
  have O := hO
  have K := Keep.refl h0 [d, ea]
  refine own_enter (ef_13 m a q r) ?_
  show own_Goes _ _ _ _ (own_P s (own_Q_13 Z dc kd cr cc mr a q r d ea k vs hd tl h0 n0) own_room_13.cells own_room_13.slots)
  refine o_aloadN X hx hB d13_0 rfl rfl ?_
  refine o_getF X hx hZ hB hown (W 86 rfl) Via.refl eT F_batches_a d13_1 fun T X eT => ?_
  refine o_new X hx hZ hB hown (W 93 rfl) (W 94 rfl) (W 95 rfl) eT d13_4 (by decide) (by decide) fun T h1 b4 g1 X eT E1 A1 D1 => ?_
  have g_b4 := own_gn O g1
  have sz_b4 := own_gz K g1
  have K := K.ext E1
  have O := O.ext E1
  refine o_dup X hx hB d13_7 rfl ?_
  refine o_lloadN X hx hB d13_8 rfl ?_
  refine o_aloadN X hx hB d13_9 rfl rfl ?_
  have f2 := D1 (Or.inr (W 106 rfl)) (ty := .long) (by decide)
  have f3 := D1 (Or.inr (W 108 rfl)) (ty := (.object "java/util/List")) (by decide)
  refine own_kQ (own_csr X hx hZ hB (W := 2) hown rfl (W 96 rfl) (W 97 rfl) (W 98 rfl) (W 95 rfl) (by decide) (rm_14 l Z a0 hw [] dc kd cr cc mr hG b4 q r _ n0 (own_zO O) O A1 f2 f3 g_b4) (by decide) (by decide) eT hml rfl pd_6 rfl rfl rfl d13_10 (by decide) (by decide)) fun v T L4 hQ X => ?_
  obtain ⟨rfl, Nq4, Kq4, t4_0, t4_1, t4_2⟩ := hQ
  have N := Fr.app N Nq4
  have K := K.trans Kq4 (allS (Or.inr sz_b4) all0)
  have O := O.keep Kq4 (allS g_b4 all0)
  have f5 := (E_d.ext E1).keep Kq4
  have z6 := own_ne1 E_d.lt g1
  have f7 := (F_elements_d.ext E1).keep Kq4 (ninS z6 nin0)
  have f8 := (F_head_d.ext E1).keep Kq4 (ninS z6 nin0)
  have f9 := (F_tail_d.ext E1).keep Kq4 (ninS z6 nin0)
  have z10 := own_ne1 V_ea.2.2.2.lt g1
  have f11 := (V_ea.ext E1).keep Kq4 (ninS z10 nin0)
  refine own_kQ (own_cif X hx hZ hB (W := 0) hown (W 109 rfl) (W 110 rfl) (W 111 rfl) (W 112 rfl) (W 113 rfl) (W 114 rfl) (W 115 rfl) (W 116 rfl) (W 117 rfl) (W 77 rfl) (by decide) (rm_16 l Z a0 hw [] dc kd cr cc mr hG d b4 ea k vs hd tl _ n0 (own_zO O) O f5 f7 f8 f9 f11 ne_d_ea t4_0 g_d g_ea htl hinc hnf) (by decide) (by decide) rfl f5 hml rfl pd_7 rfl rfl rfl d13_13 (by decide) (by decide)) fun v T L12 hQ X => ?_
  obtain ⟨rfl, Nq12, Kq12, t12_0, t12_1, t12_2, t12_3, t12_4, t12_5, t12_6⟩ := hQ
  have N := Fr.app N Nq12
  have K := K.trans Kq12 (allS (Or.inl (List.mem_of_getElem? (i := 0) rfl)) (allS (Or.inl (List.mem_of_getElem? (i := 1) rfl)) all0))
  have O := O.keep Kq12 (allS g_d (allS g_ea all0))
  refine o_pop X hx hB d13_18 rfl ?_
  have f13 := ((E_a.ext E1).keep Kq4).keep Kq12
  have z14 := own_ne1 E_a.lt g1
  have f15 := ((V_ea.2.2.2.ext E1).keep Kq4).keep Kq12
  have z16 := Exa.ne f13 f15 (by decide)
  have z17 := Exa.ne f13 t12_0 (by decide)
  have f18 := ((F_batches_a.ext E1).keep Kq4 (ninS z14 nin0)).keep Kq12 (ninS z17 (ninS z16 nin0))
  have f19 := t4_1.keep Kq12 (ninS (Ne.symm z6) (ninS (Ne.symm z10) nin0))
  have f20 := t4_2.keep Kq12 (ninS (Ne.symm z6) (ninS (Ne.symm z10) nin0))
  exact own_retV X hx Bd.returns (hb hB d13_19) (BodyLoose.notSynchronized Bd) ⟨b4, rfl, N, K, f13, f18, t12_0, t12_1, t12_2, t12_3, t12_4, t12_5, t12_6, f19, f20, sz_b4⟩ (by decide) (by decide)
theorem d21_0 : decode jdk_21_method_9_code 0 = .ok (.iload_n 0, 1) := by decide +kernel
theorem d21_1 : decode jdk_21_method_9_code 1 = .ok (.iload_n 1, 1) := by decide +kernel
theorem d21_2 : decode jdk_21_method_9_code 2 = .ok (.isub, 1) := by decide +kernel
theorem d21_3 : decode jdk_21_method_9_code 3 = .ok (.dup, 1) := by decide +kernel
theorem d21_4 : decode jdk_21_method_9_code 4 = .ok (.istore_n 0, 1) := by decide +kernel
theorem d21_5 : decode jdk_21_method_9_code 5 = .ok (.ifCond .ge 7, 3) := by decide +kernel
theorem d21_12 : decode jdk_21_method_9_code 12 = .ok (.iload_n 0, 1) := by decide +kernel
theorem d21_13 : decode jdk_21_method_9_code 13 = .ok (.ireturn, 1) := by decide +kernel
theorem pn_21 : plainName "java/util/ArrayDeque" = true := by first | (simp [plainName, overriddenIn]; done) | decide +kernel
theorem ef_21 (m : MethodId) (i : Int32) (j : Int32) (n : Int32) : entryFrame m #[(.int i), (.int j), (.int n)] 3 = mkF m 0 #[.val (.int i), .val (.int j), .val (.int n)] [] := by first | (simp [entryFrame, mkF, argsToLocals, Value.category]; done) | rfl
abbrev own_room_21 : Room := { frames := 0, cells := 0, slots := 0, locals := 0 }
set_option maxRecDepth 65536 in
set_option maxHeartbeats 40000000 in
theorem rm_21 (l : Launch) (Z : State) (a0 : Array Value) (hw : own_Hw a0 Z) (ws : List Jvm.Cond) (dc : Addr) (kd : ClassId) (cr : Addr) (cc : Cell) (mr : Addr) (hG : own_G Z dc kd cr cc mr) (i j n : Int32) (h0 : Heap) (n0 : Nat) (Z0 : n0 ≤ h0.size) (hO : Old Z n0 h0) (h : ¬ ((i - j) < 0)) :
    own_Met l (⟨"java/util/ArrayDeque", "sub", "(III)I"⟩ : MethodName) (Jvm.Cond.code (⟨"java/util/ArrayDeque", "sub", "(III)I"⟩ : MethodName) jdk_21_method_9_code 3 (some .int)) ws own_room_21 #[(.int i), (.int j), (.int n)] Z h0 (own_Qp (some (.int (i - j))) h0) own_room_21.cells own_room_21.slots := by
  refine MetFree.of_bodySF (plainFor_of_name pn_21) hisR ?_
  intro p e s m args below meth c T Bd hml0 hP hK
  obtain ⟨rfl, hZ, hh⟩ := hP
  obtain ⟨hx, hB⟩ := And.intro Bd.exec Bd.bytes
  have hml : c.maxLocals = 3 := hml0
  have hown : s.vm.findClass "java/util/ArrayDeque" = some m.cls := findClass_of_methodNamed Bd.named
  have hnm := (name_of_methodNamed Bd.named Bd.method).1
  have X : Stand p l e own_room_21 s m #[(.int i), (.int j), (.int n)] below meth c T [] 0 0 := Stand.of_body Bd
  have eT : T.heap = h0 := by rw [← hh, Bd.state]; rfl
  have W := @own_Wd a0 Z hw
  have N := Fr.nil n0
  have O := hO
  refine own_enter (ef_21 m i j n) ?_
  show own_Goes _ _ _ _ (own_P s (own_Qp (some (.int (i - j))) h0) own_room_21.cells own_room_21.slots)
  refine o_iloadN X hx hB d21_0 rfl ?_
  refine o_iloadN X hx hB d21_1 rfl ?_
  refine o_isub X hx hB d21_2 ?_
  refine o_dup X hx hB d21_3 rfl ?_
  refine o_istoreN X hx hB #[.val (.int (i - j)), .val (.int j), .val (.int n)] d21_4 rfl ?_
  refine o_ifYes X hx hB d21_5 (Jvm.Free.XT.i0_ge_t h) 12 ?_
  refine o_iloadN X hx hB d21_12 rfl ?_
  exact own_retI X hx Bd.returns (hb hB d21_13) (BodyLoose.notSynchronized Bd) ⟨rfl, rfl, eT⟩ (by decide) (by decide)
theorem d20_0 : decode jdk_21_method_37_code 0 = .ok (.aload_n 0, 1) := by decide +kernel
theorem d20_1 : decode jdk_21_method_37_code 1 = .ok (.getfield 20, 3) := by decide +kernel
theorem d20_4 : decode jdk_21_method_37_code 4 = .ok (.aload_n 0, 1) := by decide +kernel
theorem d20_5 : decode jdk_21_method_37_code 5 = .ok (.getfield 24, 3) := by decide +kernel
theorem d20_8 : decode jdk_21_method_37_code 8 = .ok (.aload_n 0, 1) := by decide +kernel
theorem d20_9 : decode jdk_21_method_37_code 9 = .ok (.getfield 3, 3) := by decide +kernel
theorem d20_12 : decode jdk_21_method_37_code 12 = .ok (.arraylength, 1) := by decide +kernel
theorem d20_13 : decode jdk_21_method_37_code 13 = .ok (.invokestatic 127, 3) := by decide +kernel
theorem d20_16 : decode jdk_21_method_37_code 16 = .ok (.ireturn, 1) := by decide +kernel
theorem pd_8 : parseMethodDescriptor "(III)I" = some ⟨[.int, .int, .int], some .int⟩ := by decide +kernel
theorem pn_20 : plainName "java/util/ArrayDeque" = true := by first | (simp [plainName, overriddenIn]; done) | decide +kernel
theorem ef_20 (m : MethodId) (a : Addr) : entryFrame m #[(.ref a)] 1 = mkF m 0 #[.val (.ref a)] [] := by first | (simp [entryFrame, mkF, argsToLocals, Value.category]; done) | rfl
abbrev own_room_20 : Room := { frames := 1, cells := 0, slots := 0, locals := 14 }
set_option maxRecDepth 65536 in
set_option maxHeartbeats 40000000 in
theorem rm_20 (l : Launch) (Z : State) (a0 : Array Value) (hw : own_Hw a0 Z) (ws : List Jvm.Cond) (dc : Addr) (kd : ClassId) (cr : Addr) (cc : Cell) (mr : Addr) (hG : own_G Z dc kd cr cc mr) (a ea : Addr) (k : ClassId) (vs : List Value) (hd tl : Int32) (h0 : Heap) (n0 : Nat) (Z0 : n0 ≤ h0.size) (hO : Old Z n0 h0) (E_a : Exa Z h0 a "java/util/ArrayDeque") (F_elements_a : Fld Z h0 a "java/util/ArrayDeque" "elements" "[Ljava/lang/Object;" (.ref ea)) (F_head_a : Fld Z h0 a "java/util/ArrayDeque" "head" "I" (.int hd)) (F_tail_a : Fld Z h0 a "java/util/ArrayDeque" "tail" "I" (.int tl)) (V_ea : own_AR Z h0 ea k (17 : Int32) vs) (hsz : ¬ ((tl - hd) < 0)) :
    own_Met l (⟨"java/util/ArrayDeque", "size", "()I"⟩ : MethodName) (Jvm.Cond.code (⟨"java/util/ArrayDeque", "size", "()I"⟩ : MethodName) jdk_21_method_37_code 1 (some .int)) ws own_room_20 #[(.ref a)] Z h0 (own_Qp (some (.int (tl - hd))) h0) own_room_20.cells own_room_20.slots := by
  refine MetFree.of_bodySF (plainFor_of_name pn_20) hisR ?_
  intro p e s m args below meth c T Bd hml0 hP hK
  obtain ⟨rfl, hZ, hh⟩ := hP
  obtain ⟨hx, hB⟩ := And.intro Bd.exec Bd.bytes
  have hml : c.maxLocals = 1 := hml0
  have hown : s.vm.findClass "java/util/ArrayDeque" = some m.cls := findClass_of_methodNamed Bd.named
  have hnm := (name_of_methodNamed Bd.named Bd.method).1
  have X : Stand p l e own_room_20 s m #[(.ref a)] below meth c T [] 0 0 := Stand.of_body Bd
  have eT : T.heap = h0 := by rw [← hh, Bd.state]; rfl
  have W := @own_Wd a0 Z hw
  have N := Fr.nil n0
  have O := hO
  refine own_enter (ef_20 m a) ?_
  show own_Goes _ _ _ _ (own_P s (own_Qp (some (.int (tl - hd))) h0) own_room_20.cells own_room_20.slots)
  refine o_aloadN X hx hB d20_0 rfl rfl ?_
  refine o_getF X hx hZ hB hown (W 123 rfl) Via.refl eT F_tail_a d20_1 fun T X eT => ?_
  refine o_aloadN X hx hB d20_4 rfl rfl ?_
  refine o_getF X hx hZ hB hown (W 126 rfl) Via.refl eT F_head_a d20_5 fun T X eT => ?_
  refine o_aloadN X hx hB d20_8 rfl rfl ?_
  refine o_getF X hx hZ hB hown (W 84 rfl) Via.refl eT F_elements_a d20_9 fun T X eT => ?_
  refine own_step (own_lenR X hx hZ eT V_ea (g := (mkF m 12 #[.val (.ref a)] [(.ref ea), (.int hd), (.int tl)])) rfl rfl (hb hB d20_12)) ?_
  show own_Goes p.tables e below (T.setTop (mkF m 13 #[.val (.ref a)] [(.int (17 : Int32)), (.int hd), (.int tl)])) _
  refine own_kP (own_cst X hx hZ hB (W := 0) hown (W 144 rfl) (W 145 rfl) (W 146 rfl) (W 77 rfl) (by decide) (rm_21 l Z a0 hw [] dc kd cr cc mr hG tl hd (17 : Int32) _ n0 (own_zO O) O hsz) (by decide) (by decide) eT hml rfl pd_8 rfl rfl rfl d20_13 (by decide) (by decide)) rfl rfl fun T X eT => ?_
  exact own_retI X hx Bd.returns (hb hB d20_16) (BodyLoose.notSynchronized Bd) ⟨rfl, rfl, eT⟩ (by decide) (by decide)
theorem d19_0 : decode prog_16_method_5_code 0 = .ok (.aload_n 0, 1) := by decide +kernel
theorem d19_1 : decode prog_16_method_5_code 1 = .ok (.getfield 10, 3) := by decide +kernel
theorem d19_4 : decode prog_16_method_5_code 4 = .ok (.invokeinterface 63 1, 5) := by decide +kernel
theorem d19_9 : decode prog_16_method_5_code 9 = .ok (.ireturn, 1) := by decide +kernel
theorem pd_9 : parseMethodDescriptor "()I" = some ⟨[], some .int⟩ := by decide +kernel
theorem pn_19 : plainName "com/example/sandpiper/sandpiper/broker/AwaitingSync" = true := by first | (simp [plainName, overriddenIn]; done) | decide +kernel
theorem ef_19 (m : MethodId) (a : Addr) : entryFrame m #[(.ref a)] 1 = mkF m 0 #[.val (.ref a)] [] := by first | (simp [entryFrame, mkF, argsToLocals, Value.category]; done) | rfl
abbrev own_room_19 : Room := { frames := 2, cells := 0, slots := 0, locals := 26 }
set_option maxRecDepth 65536 in
set_option maxHeartbeats 40000000 in
theorem rm_19 (l : Launch) (Z : State) (a0 : Array Value) (hw : own_Hw a0 Z) (ws : List Jvm.Cond) (dc : Addr) (kd : ClassId) (cr : Addr) (cc : Cell) (mr : Addr) (hG : own_G Z dc kd cr cc mr) (a d ea : Addr) (k : ClassId) (vs : List Value) (hd tl : Int32) (h0 : Heap) (n0 : Nat) (Z0 : n0 ≤ h0.size) (hO : Old Z n0 h0) (E_a : Exa Z h0 a "com/example/sandpiper/sandpiper/broker/AwaitingSync") (F_batches_a : Fld Z h0 a "com/example/sandpiper/sandpiper/broker/AwaitingSync" "batches" "Ljava/util/Deque;" (.ref d)) (E_d : Exa Z h0 d "java/util/ArrayDeque") (F_elements_d : Fld Z h0 d "java/util/ArrayDeque" "elements" "[Ljava/lang/Object;" (.ref ea)) (F_head_d : Fld Z h0 d "java/util/ArrayDeque" "head" "I" (.int hd)) (F_tail_d : Fld Z h0 d "java/util/ArrayDeque" "tail" "I" (.int tl)) (V_ea : own_AR Z h0 ea k (17 : Int32) vs) (hsz : ¬ ((tl - hd) < 0)) :
    own_Met l (⟨"com/example/sandpiper/sandpiper/broker/AwaitingSync", "size", "()I"⟩ : MethodName) (Jvm.Cond.code (⟨"com/example/sandpiper/sandpiper/broker/AwaitingSync", "size", "()I"⟩ : MethodName) prog_16_method_5_code 1 (some .int)) ws own_room_19 #[(.ref a)] Z h0 (own_Qp (some (.int (tl - hd))) h0) own_room_19.cells own_room_19.slots := by
  refine MetFree.of_bodySF (plainFor_of_name pn_19) hisR ?_
  intro p e s m args below meth c T Bd hml0 hP hK
  obtain ⟨rfl, hZ, hh⟩ := hP
  obtain ⟨hx, hB⟩ := And.intro Bd.exec Bd.bytes
  have hml : c.maxLocals = 1 := hml0
  have hown : s.vm.findClass "com/example/sandpiper/sandpiper/broker/AwaitingSync" = some m.cls := findClass_of_methodNamed Bd.named
  have hnm := (name_of_methodNamed Bd.named Bd.method).1
  have X : Stand p l e own_room_19 s m #[(.ref a)] below meth c T [] 0 0 := Stand.of_body Bd
  have eT : T.heap = h0 := by rw [← hh, Bd.state]; rfl
  have W := @own_Wd a0 Z hw
  have N := Fr.nil n0
  have O := hO
  refine own_enter (ef_19 m a) ?_
  show own_Goes _ _ _ _ (own_P s (own_Qp (some (.int (tl - hd))) h0) own_room_19.cells own_room_19.slots)
  refine o_aloadN X hx hB d19_0 rfl rfl ?_
  refine o_getF X hx hZ hB hown (W 86 rfl) Via.refl eT F_batches_a d19_1 fun T X eT => ?_
  refine own_kP (own_cif X hx hZ hB (W := 0) hown (W 136 rfl) (W 137 rfl) (W 138 rfl) (W 139 rfl) (W 140 rfl) (W 141 rfl) (W 142 rfl) (W 116 rfl) (W 143 rfl) (W 77 rfl) (by decide) (rm_20 l Z a0 hw [] dc kd cr cc mr hG d ea k vs hd tl _ n0 (own_zO O) O E_d F_elements_d F_head_d F_tail_d V_ea hsz) (by decide) (by decide) eT E_d hml rfl pd_9 rfl rfl rfl d19_4 (by decide) (by decide)) rfl rfl fun T X eT => ?_
  exact own_retI X hx Bd.returns (hb hB d19_9) (BodyLoose.notSynchronized Bd) ⟨rfl, rfl, eT⟩ (by decide) (by decide)
theorem d23_0 : decode jdk_21_method_38_code 0 = .ok (.aload_n 0, 1) := by decide +kernel
theorem d23_1 : decode jdk_21_method_38_code 1 = .ok (.getfield 24, 3) := by decide +kernel
theorem d23_4 : decode jdk_21_method_38_code 4 = .ok (.aload_n 0, 1) := by decide +kernel
theorem d23_5 : decode jdk_21_method_38_code 5 = .ok (.getfield 20, 3) := by decide +kernel
theorem d23_8 : decode jdk_21_method_38_code 8 = .ok (.if_icmp .ne 7, 3) := by decide +kernel
theorem d23_11 : decode jdk_21_method_38_code 11 = .ok (.iconst 1, 1) := by decide +kernel
theorem d23_12 : decode jdk_21_method_38_code 12 = .ok (.goto 4, 3) := by decide +kernel
theorem d23_16 : decode jdk_21_method_38_code 16 = .ok (.ireturn, 1) := by decide +kernel
theorem d23_15 : decode jdk_21_method_38_code 15 = .ok (.iconst 0, 1) := by decide +kernel
theorem pn_23 : plainName "java/util/ArrayDeque" = true := by first | (simp [plainName, overriddenIn]; done) | decide +kernel
theorem ef_23 (m : MethodId) (a : Addr) : entryFrame m #[(.ref a)] 1 = mkF m 0 #[.val (.ref a)] [] := by first | (simp [entryFrame, mkF, argsToLocals, Value.category]; done) | rfl
abbrev own_room_23 : Room := { frames := 0, cells := 0, slots := 0, locals := 0 }
set_option maxRecDepth 65536 in
set_option maxHeartbeats 40000000 in
theorem rm_23 (l : Launch) (Z : State) (a0 : Array Value) (hw : own_Hw a0 Z) (ws : List Jvm.Cond) (dc : Addr) (kd : ClassId) (cr : Addr) (cc : Cell) (mr : Addr) (hG : own_G Z dc kd cr cc mr) (a : Addr) (hd tl : Int32) (h0 : Heap) (n0 : Nat) (Z0 : n0 ≤ h0.size) (hO : Old Z n0 h0) (F_head_a : Fld Z h0 a "java/util/ArrayDeque" "head" "I" (.int hd)) (F_tail_a : Fld Z h0 a "java/util/ArrayDeque" "tail" "I" (.int tl)) :
    own_Met l (⟨"java/util/ArrayDeque", "isEmpty", "()Z"⟩ : MethodName) (Jvm.Cond.code (⟨"java/util/ArrayDeque", "isEmpty", "()Z"⟩ : MethodName) jdk_21_method_38_code 1 (some .boolean)) ws own_room_23 #[(.ref a)] Z h0 (own_Qp (some (.int (if hd = tl then (1 : Int32) else (0 : Int32)))) h0) own_room_23.cells own_room_23.slots := by
  refine MetFree.of_bodySF (plainFor_of_name pn_23) hisR ?_
  intro p e s m args below meth c T Bd hml0 hP hK
  obtain ⟨rfl, hZ, hh⟩ := hP
  obtain ⟨hx, hB⟩ := And.intro Bd.exec Bd.bytes
  have hml : c.maxLocals = 1 := hml0
  have hown : s.vm.findClass "java/util/ArrayDeque" = some m.cls := findClass_of_methodNamed Bd.named
  have hnm := (name_of_methodNamed Bd.named Bd.method).1
  have X : Stand p l e own_room_23 s m #[(.ref a)] below meth c T [] 0 0 := Stand.of_body Bd
  have eT : T.heap = h0 := by rw [← hh, Bd.state]; rfl
  have W := @own_Wd a0 Z hw
  have N := Fr.nil n0
  have O := hO
  refine own_enter (ef_23 m a) ?_
  show own_Goes _ _ _ _ (own_P s (own_Qp (some (.int (if hd = tl then (1 : Int32) else (0 : Int32)))) h0) own_room_23.cells own_room_23.slots)
  refine o_aloadN X hx hB d23_0 rfl rfl ?_
  refine o_getF X hx hZ hB hown (W 126 rfl) Via.refl eT F_head_a d23_1 fun T X eT => ?_
  refine o_aloadN X hx hB d23_4 rfl rfl ?_
  refine o_getF X hx hZ hB hown (W 123 rfl) Via.refl eT F_tail_a d23_5 fun T X eT => ?_
  by_cases hc8 : hd = tl
  · refine o_icmpNo X hx hB d23_8 (Jvm.Free.XT.ii_ne_f hc8) ?_
    refine o_iconst X hx hB d23_11 (1) ?_
    refine o_goto X hx hB d23_12 16 ?_
    rw [if_pos hc8]
    exact own_retN X hx (t := .boolean) Bd.returns (by simp) (hb hB d23_16) (BodyLoose.notSynchronized Bd) (w := (1 : Int32)) rfl ⟨rfl, rfl, eT⟩ (by decide) (by decide)
  · refine o_icmpYes X hx hB d23_8 (Jvm.Free.XT.ii_ne_t hc8) 15 ?_
    refine o_iconst X hx hB d23_15 (0) ?_
    rw [if_neg hc8]
    exact own_retN X hx (t := .boolean) Bd.returns (by simp) (hb hB d23_16) (BodyLoose.notSynchronized Bd) (w := (0 : Int32)) rfl ⟨rfl, rfl, eT⟩ (by decide) (by decide)
theorem d26_0 : decode jdk_21_method_10_code 0 = .ok (.aload_n 0, 1) := by decide +kernel
theorem d26_1 : decode jdk_21_method_10_code 1 = .ok (.iload_n 1, 1) := by decide +kernel
theorem d26_2 : decode jdk_21_method_10_code 2 = .ok (.aaload, 1) := by decide +kernel
theorem d26_3 : decode jdk_21_method_10_code 3 = .ok (.areturn, 1) := by decide +kernel
theorem pn_26 : plainName "java/util/ArrayDeque" = true := by first | (simp [plainName, overriddenIn]; done) | decide +kernel
theorem ef_26 (m : MethodId) (ea : Addr) (hd : Int32) : entryFrame m #[(.ref ea), (.int hd)] 2 = mkF m 0 #[.val (.ref ea), .val (.int hd)] [] := by first | (simp [entryFrame, mkF, argsToLocals, Value.category]; done) | rfl
abbrev own_room_26 : Room := { frames := 0, cells := 0, slots := 0, locals := 0 }
set_option maxRecDepth 65536 in
set_option maxHeartbeats 40000000 in
theorem rm_26 (l : Launch) (Z : State) (a0 : Array Value) (hw : own_Hw a0 Z) (ws : List Jvm.Cond) (dc : Addr) (kd : ClassId) (cr : Addr) (cc : Cell) (mr : Addr) (hG : own_G Z dc kd cr cc mr) (ea : Addr) (hd : Int32) (k : ClassId) (vs : List Value) (x : Addr) (h0 : Heap) (n0 : Nat) (Z0 : n0 ≤ h0.size) (hO : Old Z n0 h0) (V_ea : own_AR Z h0 ea k (17 : Int32) vs) (hhd : ¬ hd < 0 ∧ hd < (17 : Int32)) (hv : vs.getD hd.toNatClampNeg .null = .ref x) :
    own_Met l (⟨"java/util/ArrayDeque", "elementAt", "([Ljava/lang/Object;I)Ljava/lang/Object;"⟩ : MethodName) (Jvm.Cond.code (⟨"java/util/ArrayDeque", "elementAt", "([Ljava/lang/Object;I)Ljava/lang/Object;"⟩ : MethodName) jdk_21_method_10_code 2 (some (.object "java/lang/Object"))) ws own_room_26 #[(.ref ea), (.int hd)] Z h0 (own_Qp (some (.ref x)) h0) own_room_26.cells own_room_26.slots := by
  refine MetFree.of_bodySF (plainFor_of_name pn_26) hisR ?_
  intro p e s m args below meth c T Bd hml0 hP hK
  obtain ⟨rfl, hZ, hh⟩ := hP
  obtain ⟨hx, hB⟩ := And.intro Bd.exec Bd.bytes
  have hml : c.maxLocals = 2 := hml0
  have hown : s.vm.findClass "java/util/ArrayDeque" = some m.cls := findClass_of_methodNamed Bd.named
  have hnm := (name_of_methodNamed Bd.named Bd.method).1
  have X : Stand p l e own_room_26 s m #[(.ref ea), (.int hd)] below meth c T [] 0 0 := Stand.of_body Bd
  have eT : T.heap = h0 := by rw [← hh, Bd.state]; rfl
  have W := @own_Wd a0 Z hw
  have N := Fr.nil n0
  have O := hO
  refine own_enter (ef_26 m ea hd) ?_
  show own_Goes _ _ _ _ (own_P s (own_Qp (some (.ref x)) h0) own_room_26.cells own_room_26.slots)
  refine o_aloadN X hx hB d26_0 rfl rfl ?_
  refine o_iloadN X hx hB d26_1 rfl ?_
  refine own_step (own_ldR X hx hZ eT V_ea (j := hd) hhd hv (g := (mkF m 2 #[.val (.ref ea), .val (.int hd)] [(.int hd), (.ref ea)])) rfl rfl (hb hB d26_2)) ?_
  show own_Goes p.tables e below (T.setTop (mkF m 3 #[.val (.ref ea), .val (.int hd)] [(.ref x)])) _
  exact own_retA X hx Bd.returns (hb hB d26_3) (BodyLoose.notSynchronized Bd) rfl rfl ⟨rfl, rfl, eT⟩ (by decide) (by decide)
theorem d25_0 : decode jdk_21_method_24_code 0 = .ok (.aload_n 0, 1) := by decide +kernel
theorem d25_1 : decode jdk_21_method_24_code 1 = .ok (.getfield 3, 3) := by decide +kernel
theorem d25_4 : decode jdk_21_method_24_code 4 = .ok (.aload_n 0, 1) := by decide +kernel
theorem d25_5 : decode jdk_21_method_24_code 5 = .ok (.getfield 24, 3) := by decide +kernel
theorem d25_8 : decode jdk_21_method_24_code 8 = .ok (.invokestatic 103, 3) := by decide +kernel
theorem d25_11 : decode jdk_21_method_24_code 11 = .ok (.areturn, 1) := by decide +kernel
theorem pd_10 : parseMethodDescriptor "([Ljava/lang/Object;I)Ljava/lang/Object;" = some ⟨[(.array (.object "java/lang/Object")), .int], some (.object "java/lang/Object")⟩ := by decide +kernel
theorem pn_25 : plainName "java/util/ArrayDeque" = true := by first | (simp [plainName, overriddenIn]; done) | decide +kernel
theorem ef_25 (m : MethodId) (a : Addr) : entryFrame m #[(.ref a)] 1 = mkF m 0 #[.val (.ref a)] [] := by first | (simp [entryFrame, mkF, argsToLocals, Value.category]; done) | rfl
abbrev own_room_25 : Room := { frames := 1, cells := 0, slots := 0, locals := 13 }
set_option maxRecDepth 65536 in
set_option maxHeartbeats 40000000 in
theorem rm_25 (l : Launch) (Z : State) (a0 : Array Value) (hw : own_Hw a0 Z) (ws : List Jvm.Cond) (dc : Addr) (kd : ClassId) (cr : Addr) (cc : Cell) (mr : Addr) (hG : own_G Z dc kd cr cc mr) (a ea : Addr) (k : ClassId) (vs : List Value) (hd tl : Int32) (x : Addr) (h0 : Heap) (n0 : Nat) (Z0 : n0 ≤ h0.size) (hO : Old Z n0 h0) (E_a : Exa Z h0 a "java/util/ArrayDeque") (F_elements_a : Fld Z h0 a "java/util/ArrayDeque" "elements" "[Ljava/lang/Object;" (.ref ea)) (F_head_a : Fld Z h0 a "java/util/ArrayDeque" "head" "I" (.int hd)) (F_tail_a : Fld Z h0 a "java/util/ArrayDeque" "tail" "I" (.int tl)) (V_ea : own_AR Z h0 ea k (17 : Int32) vs) (hhd : ¬ hd < 0 ∧ hd < (17 : Int32)) (hv : vs.getD hd.toNatClampNeg .null = .ref x) :
    own_Met l (⟨"java/util/ArrayDeque", "peekFirst", "()Ljava/lang/Object;"⟩ : MethodName) (Jvm.Cond.code (⟨"java/util/ArrayDeque", "peekFirst", "()Ljava/lang/Object;"⟩ : MethodName) jdk_21_method_24_code 1 (some (.object "java/lang/Object"))) ws own_room_25 #[(.ref a)] Z h0 (own_Qp (some (.ref x)) h0) own_room_25.cells own_room_25.slots := by
  refine MetFree.of_bodySF (plainFor_of_name pn_25) hisR ?_
  intro p e s m args below meth c T Bd hml0 hP hK
  obtain ⟨rfl, hZ, hh⟩ := hP
  obtain ⟨hx, hB⟩ := And.intro Bd.exec Bd.bytes
  have hml : c.maxLocals = 1 := hml0
  have hown : s.vm.findClass "java/util/ArrayDeque" = some m.cls := findClass_of_methodNamed Bd.named
  have hnm := (name_of_methodNamed Bd.named Bd.method).1
  have X : Stand p l e own_room_25 s m #[(.ref a)] below meth c T [] 0 0 := Stand.of_body Bd
  have eT : T.heap = h0 := by rw [← hh, Bd.state]; rfl
  have W := @own_Wd a0 Z hw
  have N := Fr.nil n0
  have O := hO
  refine own_enter (ef_25 m a) ?_
  show own_Goes _ _ _ _ (own_P s (own_Qp (some (.ref x)) h0) own_room_25.cells own_room_25.slots)
  refine o_aloadN X hx hB d25_0 rfl rfl ?_
  refine o_getF X hx hZ hB hown (W 84 rfl) Via.refl eT F_elements_a d25_1 fun T X eT => ?_
  refine o_aloadN X hx hB d25_4 rfl rfl ?_
  refine o_getF X hx hZ hB hown (W 126 rfl) Via.refl eT F_head_a d25_5 fun T X eT => ?_
  refine own_kP (own_cst X hx hZ hB (W := 0) hown (W 175 rfl) (W 176 rfl) (W 177 rfl) (W 77 rfl) (by decide) (rm_26 l Z a0 hw [] dc kd cr cc mr hG ea hd k vs x _ n0 (own_zO O) O V_ea hhd hv) (by decide) (by decide) eT hml rfl pd_10 rfl rfl rfl d25_8 (by decide) (by decide)) rfl rfl fun T X eT => ?_
  exact own_retA X hx Bd.returns (hb hB d25_11) (BodyLoose.notSynchronized Bd) rfl rfl ⟨rfl, rfl, eT⟩ (by decide) (by decide)
theorem d24_0 : decode jdk_21_method_33_code 0 = .ok (.aload_n 0, 1) := by decide +kernel
theorem d24_1 : decode jdk_21_method_33_code 1 = .ok (.invokevirtual 124, 3) := by decide +kernel
theorem d24_4 : decode jdk_21_method_33_code 4 = .ok (.areturn, 1) := by decide +kernel
theorem pd_11 : parseMethodDescriptor "()Ljava/lang/Object;" = some ⟨[], some (.object "java/lang/Object")⟩ := by decide +kernel
theorem pn_24 : plainName "java/util/ArrayDeque" = true := by first | (simp [plainName, overriddenIn]; done) | decide +kernel
theorem ef_24 (m : MethodId) (a : Addr) : entryFrame m #[(.ref a)] 1 = mkF m 0 #[.val (.ref a)] [] := by first | (simp [entryFrame, mkF, argsToLocals, Value.category]; done) | rfl
abbrev own_room_24 : Room := { frames := 2, cells := 0, slots := 0, locals := 25 }
set_option maxRecDepth 65536 in
set_option maxHeartbeats 40000000 in
theorem rm_24 (l : Launch) (Z : State) (a0 : Array Value) (hw : own_Hw a0 Z) (ws : List Jvm.Cond) (dc : Addr) (kd : ClassId) (cr : Addr) (cc : Cell) (mr : Addr) (hG : own_G Z dc kd cr cc mr) (a ea : Addr) (k : ClassId) (vs : List Value) (hd tl : Int32) (x : Addr) (h0 : Heap) (n0 : Nat) (Z0 : n0 ≤ h0.size) (hO : Old Z n0 h0) (E_a : Exa Z h0 a "java/util/ArrayDeque") (F_elements_a : Fld Z h0 a "java/util/ArrayDeque" "elements" "[Ljava/lang/Object;" (.ref ea)) (F_head_a : Fld Z h0 a "java/util/ArrayDeque" "head" "I" (.int hd)) (F_tail_a : Fld Z h0 a "java/util/ArrayDeque" "tail" "I" (.int tl)) (V_ea : own_AR Z h0 ea k (17 : Int32) vs) (hhd : ¬ hd < 0 ∧ hd < (17 : Int32)) (hv : vs.getD hd.toNatClampNeg .null = .ref x) :
    own_Met l (⟨"java/util/ArrayDeque", "peek", "()Ljava/lang/Object;"⟩ : MethodName) (Jvm.Cond.code (⟨"java/util/ArrayDeque", "peek", "()Ljava/lang/Object;"⟩ : MethodName) jdk_21_method_33_code 1 (some (.object "java/lang/Object"))) ws own_room_24 #[(.ref a)] Z h0 (own_Qp (some (.ref x)) h0) own_room_24.cells own_room_24.slots := by
  refine MetFree.of_bodySF (plainFor_of_name pn_24) hisR ?_
  intro p e s m args below meth c T Bd hml0 hP hK
  obtain ⟨rfl, hZ, hh⟩ := hP
  obtain ⟨hx, hB⟩ := And.intro Bd.exec Bd.bytes
  have hml : c.maxLocals = 1 := hml0
  have hown : s.vm.findClass "java/util/ArrayDeque" = some m.cls := findClass_of_methodNamed Bd.named
  have hnm := (name_of_methodNamed Bd.named Bd.method).1
  have X : Stand p l e own_room_24 s m #[(.ref a)] below meth c T [] 0 0 := Stand.of_body Bd
  have eT : T.heap = h0 := by rw [← hh, Bd.state]; rfl
  have W := @own_Wd a0 Z hw
  have N := Fr.nil n0
  have O := hO
  refine own_enter (ef_24 m a) ?_
  show own_Goes _ _ _ _ (own_P s (own_Qp (some (.ref x)) h0) own_room_24.cells own_room_24.slots)
  refine o_aloadN X hx hB d24_0 rfl rfl ?_
  refine own_kP (own_cvi X hx hZ hB (W := 0) hown (W 170 rfl) (W 171 rfl) (W 173 rfl) (W 172 rfl) (W 174 rfl) (W 77 rfl) (by decide) (rm_25 l Z a0 hw [] dc kd cr cc mr hG a ea k vs hd tl x _ n0 (own_zO O) O E_a F_elements_a F_head_a F_tail_a V_ea hhd hv) (by decide) (by decide) eT E_a hml rfl pd_11 rfl rfl rfl d24_1 (by decide) (by decide)) rfl rfl fun T X eT => ?_
  exact own_retA X hx Bd.returns (hb hB d24_4) (BodyLoose.notSynchronized Bd) rfl rfl ⟨rfl, rfl, eT⟩ (by decide) (by decide)
theorem d32_0 : decode jdk_21_method_20_code 0 = .ok (.aload_n 0, 1) := by decide +kernel
theorem d32_1 : decode jdk_21_method_20_code 1 = .ok (.getfield 3, 3) := by decide +kernel
theorem d32_4 : decode jdk_21_method_20_code 4 = .ok (.dup, 1) := by decide +kernel
theorem d32_5 : decode jdk_21_method_20_code 5 = .ok (.astore_n 1, 1) := by decide +kernel
theorem d32_6 : decode jdk_21_method_20_code 6 = .ok (.aload_n 0, 1) := by decide +kernel
theorem d32_7 : decode jdk_21_method_20_code 7 = .ok (.getfield 24, 3) := by decide +kernel
theorem d32_10 : decode jdk_21_method_20_code 10 = .ok (.dup, 1) := by decide +kernel
theorem d32_11 : decode jdk_21_method_20_code 11 = .ok (.istore_n 2, 1) := by decide +kernel
theorem d32_12 : decode jdk_21_method_20_code 12 = .ok (.invokestatic 103, 3) := by decide +kernel
theorem d32_15 : decode jdk_21_method_20_code 15 = .ok (.astore_n 3, 1) := by decide +kernel
theorem d32_16 : decode jdk_21_method_20_code 16 = .ok (.aload_n 3, 1) := by decide +kernel
theorem d32_17 : decode jdk_21_method_20_code 17 = .ok (.ifnull 17, 3) := by decide +kernel
theorem d32_20 : decode jdk_21_method_20_code 20 = .ok (.aload_n 1, 1) := by decide +kernel
theorem d32_21 : decode jdk_21_method_20_code 21 = .ok (.iload_n 2, 1) := by decide +kernel
theorem d32_22 : decode jdk_21_method_20_code 22 = .ok (.aconst_null, 1) := by decide +kernel
theorem d32_23 : decode jdk_21_method_20_code 23 = .ok (.aastore, 1) := by decide +kernel
theorem d32_24 : decode jdk_21_method_20_code 24 = .ok (.aload_n 0, 1) := by decide +kernel
theorem d32_25 : decode jdk_21_method_20_code 25 = .ok (.iload_n 2, 1) := by decide +kernel
theorem d32_26 : decode jdk_21_method_20_code 26 = .ok (.aload_n 1, 1) := by decide +kernel
theorem d32_27 : decode jdk_21_method_20_code 27 = .ok (.arraylength, 1) := by decide +kernel
theorem d32_28 : decode jdk_21_method_20_code 28 = .ok (.invokestatic 74, 3) := by decide +kernel
theorem d32_31 : decode jdk_21_method_20_code 31 = .ok (.putfield 24, 3) := by decide +kernel
theorem d32_34 : decode jdk_21_method_20_code 34 = .ok (.aload_n 3, 1) := by decide +kernel
theorem d32_35 : decode jdk_21_method_20_code 35 = .ok (.areturn, 1) := by decide +kernel
theorem pn_32 : plainName "java/util/ArrayDeque" = true := by first | (simp [plainName, overriddenIn]; done) | decide +kernel
theorem ef_32 (m : MethodId) (a : Addr) : entryFrame m #[(.ref a)] 4 = mkF m 0 #[.val (.ref a), .unset, .unset, .unset] [] := by first | (simp [entryFrame, mkF, argsToLocals, Value.category]; done) | rfl
abbrev own_room_32 : Room := { frames := 1, cells := 0, slots := 0, locals := 14 }
def own_Q_32 (Z : State) (dc : Addr) (kd : ClassId) (cr : Addr) (cc : Cell) (mr : Addr) (a ea : Addr) (k : ClassId) (vs : List Value) (hd tl : Int32) (x : Addr) (h0 : Heap) (n0 : Nat) (v : Option Value) (h : Heap) (L : List Loc) : Prop := v = (some (.ref x)) ∧ Fr n0 L ∧ Keep h0 h [a, ea] ∧ Exa Z h a "java/util/ArrayDeque" ∧ Fld Z h a "java/util/ArrayDeque" "elements" "[Ljava/lang/Object;" (.ref ea) ∧ Fld Z h a "java/util/ArrayDeque" "head" "I" (.int (hd + (1 : Int32))) ∧ Fld Z h a "java/util/ArrayDeque" "tail" "I" (.int tl) ∧ own_AR Z h ea k (17 : Int32) (vs.set hd.toNatClampNeg .null) ∧ a ≠ ea
set_option maxRecDepth 65536 in
set_option maxHeartbeats 40000000 in
theorem rm_32 (l : Launch) (Z : State) (a0 : Array Value) (hw : own_Hw a0 Z) (ws : List Jvm.Cond) (dc : Addr) (kd : ClassId) (cr : Addr) (cc : Cell) (mr : Addr) (hG : own_G Z dc kd cr cc mr) (a ea : Addr) (k : ClassId) (vs : List Value) (hd tl : Int32) (x : Addr) (h0 : Heap) (n0 : Nat) (Z0 : n0 ≤ h0.size) (hO : Old Z n0 h0) (E_a : Exa Z h0 a "java/util/ArrayDeque") (F_elements_a : Fld Z h0 a "java/util/ArrayDeque" "elements" "[Ljava/lang/Object;" (.ref ea)) (F_head_a : Fld Z h0 a "java/util/ArrayDeque" "head" "I" (.int hd)) (F_tail_a : Fld Z h0 a "java/util/ArrayDeque" "tail" "I" (.int tl)) (V_ea : own_AR Z h0 ea k (17 : Int32) vs) (ne_a_ea : a ≠ ea) (g_a : n0 ≤ a) (g_ea : n0 ≤ ea) (hhd : ¬ hd < 0 ∧ hd < (17 : Int32)) (hv : vs.getD hd.toNatClampNeg .null = .ref x) (hinc : (hd + (1 : Int32)) < (17 : Int32)) :
    own_Met l (⟨"java/util/ArrayDeque", "pollFirst", "()Ljava/lang/Object;"⟩ : MethodName) (Jvm.Cond.code (⟨"java/util/ArrayDeque", "pollFirst", "()Ljava/lang/Object;"⟩ : MethodName) jdk_21_method_20_code 4 (some (.object "java/lang/Object"))) ws own_room_32 #[(.ref a)] Z h0 (own_Q_32 Z dc kd cr cc mr a ea k vs hd tl x h0 n0) own_room_32.cells own_room_32.slots := by
  refine MetFree.of_bodySF (plainFor_of_name pn_32) hisR ?_
  intro p e s m args below meth c T Bd hml0 hP hK
  obtain ⟨rfl, hZ, hh⟩ := hP
  obtain ⟨hx, hB⟩ := And.intro Bd.exec Bd.bytes
  have hml : c.maxLocals = 4 := hml0
  have hown : s.vm.findClass "java/util/ArrayDeque" = some m.cls := findClass_of_methodNamed Bd.named
  have hnm := (name_of_methodNamed Bd.named Bd.method).1
  have X : Stand p l e own_room_32 s m #[(.ref a)] below meth c T [] 0 0 := Stand.of_body Bd
  have eT : T.heap = h0 := by rw [← hh, Bd.state]; rfl
  have W := @own_Wd a0 Z hw
  have N := Fr.nil n0
  have O := hO
  have K := Keep.refl h0 [a, ea]
  refine own_enter (ef_32 m a) ?_
  show own_Goes _ _ _ _ (own_P s (own_Q_32 Z dc kd cr cc mr a ea k vs hd tl x h0 n0) own_room_32.cells own_room_32.slots)
  refine o_aloadN X hx hB d32_0 rfl rfl ?_
  refine o_getF X hx hZ hB hown (W 84 rfl) Via.refl eT F_elements_a d32_1 fun T X eT => ?_
  refine o_dup X hx hB d32_4 rfl ?_
  refine o_astoreN X hx hB #[.val (.ref a), .val (.ref ea), .unset, .unset] d32_5 rfl rfl ?_
  refine o_aloadN X hx hB d32_6 rfl rfl ?_
  refine o_getF X hx hZ hB hown (W 126 rfl) Via.refl eT F_head_a d32_7 fun T X eT => ?_
  refine o_dup X hx hB d32_10 rfl ?_
  refine o_istoreN X hx hB #[.val (.ref a), .val (.ref ea), .val (.int hd), .unset] d32_11 rfl ?_
  refine own_kP (own_cst X hx hZ hB (W := 0) hown (W 175 rfl) (W 176 rfl) (W 177 rfl) (W 77 rfl) (by decide) (rm_26 l Z a0 hw [] dc kd cr cc mr hG ea hd k vs x _ n0 (own_zO O) O V_ea hhd hv) (by decide) (by decide) eT hml rfl pd_10 rfl rfl rfl d32_12 (by decide) (by decide)) rfl rfl fun T X eT => ?_
  refine o_astoreN X hx hB #[.val (.ref a), .val (.ref ea), .val (.int hd), .val (.ref x)] d32_15 rfl rfl ?_
  refine o_aloadN X hx hB d32_16 rfl rfl ?_
  refine own_step (fun _ => XS.ifnullNo X.here hx rfl (hb hB d32_17) rfl) ?_
  show own_Goes p.tables e below (T.setTop (mkF m 20 #[.val (.ref a), .val (.ref ea), .val (.int hd), .val (.ref x)] [])) _
  refine o_aloadN X hx hB d32_20 rfl rfl ?_
  refine o_iloadN X hx hB d32_21 rfl ?_
  refine own_step (fun _ => XS.aconstNull X.here hx rfl (hb hB d32_22)) ?_
  show own_Goes p.tables e below (T.setTop (mkF m 23 #[.val (.ref a), .val (.ref ea), .val (.int hd), .val (.ref x)] [.null, (.int hd), (.ref ea)])) _
  obtain ⟨T, h1, L1, X, e1, Nq1, V1, W1, st⟩ := own_stR X hx hZ eT V_ea (j := hd) hhd (Or.inl rfl) (g := (mkF m 23 #[.val (.ref a), .val (.ref ea), .val (.int hd), .val (.ref x)] [.null, (.int hd), (.ref ea)])) rfl rfl (hb hB d32_23)
  have N := Nq1 n0 N g_ea
  have K := K.wr W1 (Or.inl (List.mem_of_getElem? (i := 1) rfl))
  have O := O.wr W1 g_ea
  refine own_step (st) ?_
  show own_Goes p.tables e below (T.setTop (mkF m 24 #[.val (.ref a), .val (.ref ea), .val (.int hd), .val (.ref x)] [])) _
  refine o_aloadN X hx hB d32_24 rfl rfl ?_
  refine o_iloadN X hx hB d32_25 rfl ?_
  refine o_aloadN X hx hB d32_26 rfl rfl ?_
  refine own_step (own_lenR X hx hZ e1 V1 (g := (mkF m 27 #[.val (.ref a), .val (.ref ea), .val (.int hd), .val (.ref x)] [(.ref ea), (.int hd), (.ref a)])) rfl rfl (hb hB d32_27)) ?_
  show own_Goes p.tables e below (T.setTop (mkF m 28 #[.val (.ref a), .val (.ref ea), .val (.int hd), .val (.ref x)] [(.int (17 : Int32)), (.int hd), (.ref a)])) _
  refine own_kP (own_cst X hx hZ hB (W := 1) hown (W 128 rfl) (W 129 rfl) (W 130 rfl) (W 77 rfl) (by decide) (rm_18 l Z a0 hw [] dc kd cr cc mr hG hd (17 : Int32) _ n0 (own_zO O) O hinc) (by decide) (by decide) e1 hml rfl pd_1 rfl rfl rfl d32_28 (by decide) (by decide)) rfl rfl fun T X eT => ?_
  have f2 := E_a.wr W1
  have f3 := F_head_a.other W1 (Or.inl ne_a_ea)
  refine o_putF X hx hZ hB hown (W 126 rfl) Via.refl eT f3 f2 (Or.inl (W 127 rfl)) (W 76 rfl) (ty := .int) (by decide) rfl rfl d32_31 fun T h4 X eT W4 => ?_
  have N := Fr.snoc X N g_a
  have K := K.wr W4 (Or.inl (List.mem_of_getElem? (i := 0) rfl))
  have O := O.wr W4 g_a
  refine o_aloadN X hx hB d32_34 rfl rfl ?_
  have f5 := f2.wr W4
  have f6 := (F_elements_a.other W1 (Or.inl ne_a_ea)).other W4 (Or.inr (slot_ne (Or.inl (W 85 rfl)) (Or.inl (W 127 rfl)) (by decide) (t := (.array (.object "java/lang/Object"))) (t' := .int) (by decide) (by decide)))
  have f7 := f3.same W4
  have f8 := (F_tail_a.other W1 (Or.inl ne_a_ea)).other W4 (Or.inr (slot_ne (Or.inl (W 124 rfl)) (Or.inl (W 127 rfl)) (by decide) (t := .int) (t' := .int) (by decide) (by decide)))
  have f9 := V1.other W4 (Ne.symm ne_a_ea)
  exact own_retA X hx Bd.returns (hb hB d32_35) (BodyLoose.notSynchronized Bd) rfl rfl (by rw [eT]; exact ⟨rfl, N, K, f5, f6, f7, f8, f9, ne_a_ea⟩) (by decide) (by decide)
theorem d31_0 : decode jdk_21_method_31_code 0 = .ok (.aload_n 0, 1) := by decide +kernel
theorem d31_1 : decode jdk_21_method_31_code 1 = .ok (.invokevirtual 93, 3) := by decide +kernel
theorem d31_4 : decode jdk_21_method_31_code 4 = .ok (.areturn, 1) := by decide +kernel
theorem pn_31 : plainName "java/util/ArrayDeque" = true := by first | (simp [plainName, overriddenIn]; done) | decide +kernel
theorem ef_31 (m : MethodId) (a : Addr) : entryFrame m #[(.ref a)] 1 = mkF m 0 #[.val (.ref a)] [] := by first | (simp [entryFrame, mkF, argsToLocals, Value.category]; done) | rfl
abbrev own_room_31 : Room := { frames := 2, cells := 0, slots := 0, locals := 29 }
def own_Q_31 (Z : State) (dc : Addr) (kd : ClassId) (cr : Addr) (cc : Cell) (mr : Addr) (a ea : Addr) (k : ClassId) (vs : List Value) (hd tl : Int32) (x : Addr) (h0 : Heap) (n0 : Nat) (v : Option Value) (h : Heap) (L : List Loc) : Prop := v = (some (.ref x)) ∧ Fr n0 L ∧ Keep h0 h [a, ea] ∧ Exa Z h a "java/util/ArrayDeque" ∧ Fld Z h a "java/util/ArrayDeque" "elements" "[Ljava/lang/Object;" (.ref ea) ∧ Fld Z h a "java/util/ArrayDeque" "head" "I" (.int (hd + (1 : Int32))) ∧ Fld Z h a "java/util/ArrayDeque" "tail" "I" (.int tl) ∧ own_AR Z h ea k (17 : Int32) (vs.set hd.toNatClampNeg .null) ∧ a ≠ ea
set_option maxRecDepth 65536 in
set_option maxHeartbeats 40000000 in
theorem rm_31 (l : Launch) (Z : State) (a0 : Array Value) (hw : own_Hw a0 Z) (ws : List Jvm.Cond) (dc : Addr) (kd : ClassId) (cr : Addr) (cc : Cell) (mr : Addr) (hG : own_G Z dc kd cr cc mr) (a ea : Addr) (k : ClassId) (vs : List Value) (hd tl : Int32) (x : Addr) (h0 : Heap) (n0 : Nat) (Z0 : n0 ≤ h0.size) (hO : Old Z n0 h0) (E_a : Exa Z h0 a "java/util/ArrayDeque") (F_elements_a : Fld Z h0 a "java/util/ArrayDeque" "elements" "[Ljava/lang/Object;" (.ref ea)) (F_head_a : Fld Z h0 a "java/util/ArrayDeque" "head" "I" (.int hd)) (F_tail_a : Fld Z h0 a "java/util/ArrayDeque" "tail" "I" (.int tl)) (V_ea : own_AR Z h0 ea k (17 : Int32) vs) (ne_a_ea : a ≠ ea) (g_a : n0 ≤ a) (g_ea : n0 ≤ ea) (hhd : ¬ hd < 0 ∧ hd < (17 : Int32)) (hv : vs.getD hd.toNatClampNeg .null = .ref x) (hinc : (hd + (1 : Int32)) < (17 : Int32)) :
    own_Met l (⟨"java/util/ArrayDeque", "poll", "()Ljava/lang/Object;"⟩ : MethodName) (Jvm.Cond.code (⟨"java/util/ArrayDeque", "poll", "()Ljava/lang/Object;"⟩ : MethodName) jdk_21_method_31_code 1 (some (.object "java/lang/Object"))) ws own_room_31 #[(.ref a)] Z h0 (own_Q_31 Z dc kd cr cc mr a ea k vs hd tl x h0 n0) own_room_31.cells own_room_31.slots := by
  refine MetFree.of_bodySF (plainFor_of_name pn_31) hisR ?_
  intro p e s m args below meth c T Bd hml0 hP hK
  obtain ⟨rfl, hZ, hh⟩ := hP
  obtain ⟨hx, hB⟩ := And.intro Bd.exec Bd.bytes
  have hml : c.maxLocals = 1 := hml0
  have hown : s.vm.findClass "java/util/ArrayDeque" = some m.cls := findClass_of_methodNamed Bd.named
  have hnm := (name_of_methodNamed Bd.named Bd.method).1
  have X : Stand p l e own_room_31 s m #[(.ref a)] below meth c T [] 0 0 := Stand.of_body Bd
  have eT : T.heap = h0 := by rw [← hh, Bd.state]; rfl
  have W := @own_Wd a0 Z hw
  have N := Fr.nil n0
  have O := hO
  have K := Keep.refl h0 [a, ea]
  refine own_enter (ef_31 m a) ?_
  show own_Goes _ _ _ _ (own_P s (own_Q_31 Z dc kd cr cc mr a ea k vs hd tl x h0 n0) own_room_31.cells own_room_31.slots)
  refine o_aloadN X hx hB d31_0 rfl rfl ?_
  refine own_kQ (own_cvi X hx hZ hB (W := 0) hown (W 211 rfl) (W 212 rfl) (W 214 rfl) (W 213 rfl) (W 215 rfl) (W 77 rfl) (by decide) (rm_32 l Z a0 hw [] dc kd cr cc mr hG a ea k vs hd tl x _ n0 (own_zO O) O E_a F_elements_a F_head_a F_tail_a V_ea ne_a_ea g_a g_ea hhd hv hinc) (by decide) (by decide) eT E_a hml rfl pd_11 rfl rfl rfl d31_1 (by decide) (by decide)) fun v T L1 hQ X => ?_
  obtain ⟨rfl, Nq1, Kq1, t1_0, t1_1, t1_2, t1_3, t1_4, t1_5⟩ := hQ
  have N := Fr.app N Nq1
  have K := K.trans Kq1 (allS (Or.inl (List.mem_of_getElem? (i := 0) rfl)) (allS (Or.inl (List.mem_of_getElem? (i := 1) rfl)) all0))
  have O := O.keep Kq1 (allS g_a (allS g_ea all0))
  exact own_retA X hx Bd.returns (hb hB d31_4) (BodyLoose.notSynchronized Bd) rfl rfl ⟨rfl, N, K, t1_0, t1_1, t1_2, t1_3, t1_4, t1_5⟩ (by decide) (by decide)
theorem d27_0 : decode prog_17_method_5_code 0 = .ok (.aload_n 0, 1) := by decide +kernel
theorem d27_1 : decode prog_17_method_5_code 1 = .ok (.getfield 7, 3) := by decide +kernel
theorem d27_4 : decode prog_17_method_5_code 4 = .ok (.lreturn, 1) := by decide +kernel
theorem pn_27 : plainName "com/example/sandpiper/sandpiper/broker/AwaitingSync$Batch" = true := by first | (simp [plainName, overriddenIn]; done) | decide +kernel
theorem ef_27 (m : MethodId) (a : Addr) : entryFrame m #[(.ref a)] 1 = mkF m 0 #[.val (.ref a)] [] := by first | (simp [entryFrame, mkF, argsToLocals, Value.category]; done) | rfl
abbrev own_room_27 : Room := { frames := 0, cells := 0, slots := 0, locals := 0 }
set_option maxRecDepth 65536 in
set_option maxHeartbeats 40000000 in
theorem rm_27 (l : Launch) (Z : State) (a0 : Array Value) (hw : own_Hw a0 Z) (ws : List Jvm.Cond) (dc : Addr) (kd : ClassId) (cr : Addr) (cc : Cell) (mr : Addr) (hG : own_G Z dc kd cr cc mr) (a : Addr) (q : Int64) (r : Addr) (h0 : Heap) (n0 : Nat) (Z0 : n0 ≤ h0.size) (hO : Old Z n0 h0) (E_a : Exa Z h0 a "com/example/sandpiper/sandpiper/broker/AwaitingSync$Batch") (F_lastWrite_a : Fld Z h0 a "com/example/sandpiper/sandpiper/broker/AwaitingSync$Batch" "lastWrite" "J" (.long q)) (F_kept_a : Fld Z h0 a "com/example/sandpiper/sandpiper/broker/AwaitingSync$Batch" "kept" "Ljava/util/List;" (.ref r)) :
    own_Met l (⟨"com/example/sandpiper/sandpiper/broker/AwaitingSync$Batch", "lastWrite", "()J"⟩ : MethodName) (Jvm.Cond.code (⟨"com/example/sandpiper/sandpiper/broker/AwaitingSync$Batch", "lastWrite", "()J"⟩ : MethodName) prog_17_method_5_code 1 (some .long)) ws own_room_27 #[(.ref a)] Z h0 (own_Qp (some (.long q)) h0) own_room_27.cells own_room_27.slots := by
  refine MetFree.of_bodySF (plainFor_of_name pn_27) hisR ?_
  intro p e s m args below meth c T Bd hml0 hP hK
  obtain ⟨rfl, hZ, hh⟩ := hP
  obtain ⟨hx, hB⟩ := And.intro Bd.exec Bd.bytes
  have hml : c.maxLocals = 1 := hml0
  have hown : s.vm.findClass "com/example/sandpiper/sandpiper/broker/AwaitingSync$Batch" = some m.cls := findClass_of_methodNamed Bd.named
  have hnm := (name_of_methodNamed Bd.named Bd.method).1
  have X : Stand p l e own_room_27 s m #[(.ref a)] below meth c T [] 0 0 := Stand.of_body Bd
  have eT : T.heap = h0 := by rw [← hh, Bd.state]; rfl
  have W := @own_Wd a0 Z hw
  have N := Fr.nil n0
  have O := hO
  refine own_enter (ef_27 m a) ?_
  show own_Goes _ _ _ _ (own_P s (own_Qp (some (.long q)) h0) own_room_27.cells own_room_27.slots)
  refine o_aloadN X hx hB d27_0 rfl rfl ?_
  refine o_getF X hx hZ hB hown (W 105 rfl) Via.refl eT F_lastWrite_a d27_1 fun T X eT => ?_
  exact own_retJ X hx Bd.returns (hb hB d27_4) (BodyLoose.notSynchronized Bd) ⟨rfl, rfl, eT⟩ (by decide) (by decide)
theorem d33_0 : decode prog_17_method_6_code 0 = .ok (.aload_n 0, 1) := by decide +kernel
theorem d33_1 : decode prog_17_method_6_code 1 = .ok (.getfield 13, 3) := by decide +kernel
theorem d33_4 : decode prog_17_method_6_code 4 = .ok (.areturn, 1) := by decide +kernel
theorem pn_33 : plainName "com/example/sandpiper/sandpiper/broker/AwaitingSync$Batch" = true := by first | (simp [plainName, overriddenIn]; done) | decide +kernel
theorem ef_33 (m : MethodId) (a : Addr) : entryFrame m #[(.ref a)] 1 = mkF m 0 #[.val (.ref a)] [] := by first | (simp [entryFrame, mkF, argsToLocals, Value.category]; done) | rfl
abbrev own_room_33 : Room := { frames := 0, cells := 0, slots := 0, locals := 0 }
set_option maxRecDepth 65536 in
set_option maxHeartbeats 40000000 in
theorem rm_33 (l : Launch) (Z : State) (a0 : Array Value) (hw : own_Hw a0 Z) (ws : List Jvm.Cond) (dc : Addr) (kd : ClassId) (cr : Addr) (cc : Cell) (mr : Addr) (hG : own_G Z dc kd cr cc mr) (a : Addr) (q : Int64) (r : Addr) (h0 : Heap) (n0 : Nat) (Z0 : n0 ≤ h0.size) (hO : Old Z n0 h0) (E_a : Exa Z h0 a "com/example/sandpiper/sandpiper/broker/AwaitingSync$Batch") (F_lastWrite_a : Fld Z h0 a "com/example/sandpiper/sandpiper/broker/AwaitingSync$Batch" "lastWrite" "J" (.long q)) (F_kept_a : Fld Z h0 a "com/example/sandpiper/sandpiper/broker/AwaitingSync$Batch" "kept" "Ljava/util/List;" (.ref r)) :
    own_Met l (⟨"com/example/sandpiper/sandpiper/broker/AwaitingSync$Batch", "kept", "()Ljava/util/List;"⟩ : MethodName) (Jvm.Cond.code (⟨"com/example/sandpiper/sandpiper/broker/AwaitingSync$Batch", "kept", "()Ljava/util/List;"⟩ : MethodName) prog_17_method_6_code 1 (some (.object "java/util/List"))) ws own_room_33 #[(.ref a)] Z h0 (own_Qp (some (.ref r)) h0) own_room_33.cells own_room_33.slots := by
  refine MetFree.of_bodySF (plainFor_of_name pn_33) hisR ?_
  intro p e s m args below meth c T Bd hml0 hP hK
  obtain ⟨rfl, hZ, hh⟩ := hP
  obtain ⟨hx, hB⟩ := And.intro Bd.exec Bd.bytes
  have hml : c.maxLocals = 1 := hml0
  have hown : s.vm.findClass "com/example/sandpiper/sandpiper/broker/AwaitingSync$Batch" = some m.cls := findClass_of_methodNamed Bd.named
  have hnm := (name_of_methodNamed Bd.named Bd.method).1
  have X : Stand p l e own_room_33 s m #[(.ref a)] below meth c T [] 0 0 := Stand.of_body Bd
  have eT : T.heap = h0 := by rw [← hh, Bd.state]; rfl
  have W := @own_Wd a0 Z hw
  have N := Fr.nil n0
  have O := hO
  refine own_enter (ef_33 m a) ?_
  show own_Goes _ _ _ _ (own_P s (own_Qp (some (.ref r)) h0) own_room_33.cells own_room_33.slots)
  refine o_aloadN X hx hB d33_0 rfl rfl ?_
  refine o_getF X hx hZ hB hown (W 107 rfl) Via.refl eT F_kept_a d33_1 fun T X eT => ?_
  exact own_retA X hx Bd.returns (hb hB d33_4) (BodyLoose.notSynchronized Bd) rfl rfl ⟨rfl, rfl, eT⟩ (by decide) (by decide)
theorem d29_0 : decode jdk_38_method_8_code 0 = .ok (.aload_n 0, 1) := by decide +kernel
theorem d29_1 : decode jdk_38_method_8_code 1 = .ok (.getfield 48, 3) := by decide +kernel
theorem d29_4 : decode jdk_38_method_8_code 4 = .ok (.ireturn, 1) := by decide +kernel
theorem pn_29 : plainName "java/util/ArrayList" = true := by first | (simp [plainName, overriddenIn]; done) | decide +kernel
theorem ef_29 (m : MethodId) (a : Addr) : entryFrame m #[(.ref a)] 1 = mkF m 0 #[.val (.ref a)] [] := by first | (simp [entryFrame, mkF, argsToLocals, Value.category]; done) | rfl
abbrev own_room_29 : Room := { frames := 0, cells := 0, slots := 0, locals := 0 }
set_option maxRecDepth 65536 in
set_option maxHeartbeats 40000000 in
theorem rm_29 (l : Launch) (Z : State) (a0 : Array Value) (hw : own_Hw a0 Z) (ws : List Jvm.Cond) (dc : Addr) (kd : ClassId) (cr : Addr) (cc : Cell) (mr : Addr) (hG : own_G Z dc kd cr cc mr) (a : Addr) (z : Int32) (h0 : Heap) (n0 : Nat) (Z0 : n0 ≤ h0.size) (hO : Old Z n0 h0) (F_size_a : Fld Z h0 a "java/util/ArrayList" "size" "I" (.int z)) :
    own_Met l (⟨"java/util/ArrayList", "size", "()I"⟩ : MethodName) (Jvm.Cond.code (⟨"java/util/ArrayList", "size", "()I"⟩ : MethodName) jdk_38_method_8_code 1 (some .int)) ws own_room_29 #[(.ref a)] Z h0 (own_Qp (some (.int z)) h0) own_room_29.cells own_room_29.slots := by
  refine MetFree.of_bodySF (plainFor_of_name pn_29) hisR ?_
  intro p e s m args below meth c T Bd hml0 hP hK
  obtain ⟨rfl, hZ, hh⟩ := hP
  obtain ⟨hx, hB⟩ := And.intro Bd.exec Bd.bytes
  have hml : c.maxLocals = 1 := hml0
  have hown : s.vm.findClass "java/util/ArrayList" = some m.cls := findClass_of_methodNamed Bd.named
  have hnm := (name_of_methodNamed Bd.named Bd.method).1
  have X : Stand p l e own_room_29 s m #[(.ref a)] below meth c T [] 0 0 := Stand.of_body Bd
  have eT : T.heap = h0 := by rw [← hh, Bd.state]; rfl
  have W := @own_Wd a0 Z hw
  have N := Fr.nil n0
  have O := hO
  refine own_enter (ef_29 m a) ?_
  show own_Goes _ _ _ _ (own_P s (own_Qp (some (.int z)) h0) own_room_29.cells own_room_29.slots)
  refine o_aloadN X hx hB d29_0 rfl rfl ?_
  refine o_getF X hx hZ hB hown (W 44 rfl) Via.refl eT F_size_a d29_1 fun T X eT => ?_
  exact own_retI X hx Bd.returns (hb hB d29_4) (BodyLoose.notSynchronized Bd) ⟨rfl, rfl, eT⟩ (by decide) (by decide)
theorem d43_0 : decode jdk_33_method_27_code 0 = .ok (.aload_n 0, 1) := by decide +kernel
theorem d43_1 : decode jdk_33_method_27_code 1 = .ok (.getfield 205, 3) := by decide +kernel
theorem d43_4 : decode jdk_33_method_27_code 4 = .ok (.ireturn, 1) := by decide +kernel
theorem pn_43 : plainName "java/lang/Integer" = true := by first | (simp [plainName, overriddenIn]; done) | decide +kernel
theorem ef_43 (m : MethodId) (a : Addr) : entryFrame m #[(.ref a)] 1 = mkF m 0 #[.val (.ref a)] [] := by first | (simp [entryFrame, mkF, argsToLocals, Value.category]; done) | rfl
abbrev own_room_43 : Room := { frames := 0, cells := 0, slots := 0, locals := 0 }
set_option maxRecDepth 65536 in
set_option maxHeartbeats 40000000 in
theorem rm_43 (l : Launch) (Z : State) (a0 : Array Value) (hw : own_Hw a0 Z) (ws : List Jvm.Cond) (dc : Addr) (kd : ClassId) (cr : Addr) (cc : Cell) (mr : Addr) (hG : own_G Z dc kd cr cc mr) (a : Addr) (z : Int32) (h0 : Heap) (n0 : Nat) (Z0 : n0 ≤ h0.size) (hO : Old Z n0 h0) (F_value_a : Fld Z h0 a "java/lang/Integer" "value" "I" (.int z)) :
    own_Met l (⟨"java/lang/Integer", "intValue", "()I"⟩ : MethodName) (Jvm.Cond.code (⟨"java/lang/Integer", "intValue", "()I"⟩ : MethodName) jdk_33_method_27_code 1 (some .int)) ws own_room_43 #[(.ref a)] Z h0 (own_Qp (some (.int z)) h0) own_room_43.cells own_room_43.slots := by
  refine MetFree.of_bodySF (plainFor_of_name pn_43) hisR ?_
  intro p e s m args below meth c T Bd hml0 hP hK
  obtain ⟨rfl, hZ, hh⟩ := hP
  obtain ⟨hx, hB⟩ := And.intro Bd.exec Bd.bytes
  have hml : c.maxLocals = 1 := hml0
  have hown : s.vm.findClass "java/lang/Integer" = some m.cls := findClass_of_methodNamed Bd.named
  have hnm := (name_of_methodNamed Bd.named Bd.method).1
  have X : Stand p l e own_room_43 s m #[(.ref a)] below meth c T [] 0 0 := Stand.of_body Bd
  have eT : T.heap = h0 := by rw [← hh, Bd.state]; rfl
  have W := @own_Wd a0 Z hw
  have N := Fr.nil n0
  have O := hO
  refine own_enter (ef_43 m a) ?_
  show own_Goes _ _ _ _ (own_P s (own_Qp (some (.int z)) h0) own_room_43.cells own_room_43.slots)
  refine o_aloadN X hx hB d43_0 rfl rfl ?_
  refine o_getF X hx hZ hB hown (W 289 rfl) Via.refl eT F_value_a d43_1 fun T X eT => ?_
  exact own_retI X hx Bd.returns (hb hB d43_4) (BodyLoose.notSynchronized Bd) ⟨rfl, rfl, eT⟩ (by decide) (by decide)
theorem d38_0 : decode jdk_29_method_69_code 0 = .ok (.iload_n 0, 1) := by decide +kernel
theorem d38_1 : decode jdk_29_method_69_code 1 = .ok (.iload_n 1, 1) := by decide +kernel
theorem d38_2 : decode jdk_29_method_69_code 2 = .ok (.if_icmp .gt 7, 3) := by decide +kernel
theorem d38_9 : decode jdk_29_method_69_code 9 = .ok (.iload_n 1, 1) := by decide +kernel
theorem d38_10 : decode jdk_29_method_69_code 10 = .ok (.ireturn, 1) := by decide +kernel
theorem d38_5 : decode jdk_29_method_69_code 5 = .ok (.iload_n 0, 1) := by decide +kernel
theorem d38_6 : decode jdk_29_method_69_code 6 = .ok (.goto 4, 3) := by decide +kernel
theorem ef_38 (m : MethodId) (i : Int32) (j : Int32) : entryFrame m #[(.int i), (.int j)] 2 = mkF m 0 #[.val (.int i), .val (.int j)] [] := by first | (simp [entryFrame, mkF, argsToLocals, Value.category]; done) | rfl
abbrev own_room_38 : Room := { frames := 0, cells := 0, slots := 0, locals := 0 }
set_option maxRecDepth 65536 in
set_option maxHeartbeats 40000000 in
theorem rm_38 (l : Launch) (Z : State) (a0 : Array Value) (hw : own_Hw a0 Z) (ws : List Jvm.Cond) (dc : Addr) (kd : ClassId) (cr : Addr) (cc : Cell) (mr : Addr) (hG : own_G Z dc kd cr cc mr) (i j r : Int32) (h0 : Heap) (n0 : Nat) (Z0 : n0 ≤ h0.size) (hO : Old Z n0 h0) (hr : (if j < i then j else i) = r) :
    own_Met l (⟨"java/lang/Math", "min", "(II)I"⟩ : MethodName) (Jvm.Cond.code (⟨"java/lang/Math", "min", "(II)I"⟩ : MethodName) jdk_29_method_69_code 2 (some .int)) ws own_room_38 #[(.int i), (.int j)] Z h0 (own_Qp (some (.int r)) h0) own_room_38.cells own_room_38.slots := by
  refine MetFree.of_bodySF (Jvm.Free.JP.mathPlain rfl (by decide +kernel)) hisR ?_
  intro p e s m args below meth c T Bd hml0 hP hK
  obtain ⟨rfl, hZ, hh⟩ := hP
  obtain ⟨hx, hB⟩ := And.intro Bd.exec Bd.bytes
  have hml : c.maxLocals = 2 := hml0
  have hown : s.vm.findClass "java/lang/Math" = some m.cls := findClass_of_methodNamed Bd.named
  have hnm := (name_of_methodNamed Bd.named Bd.method).1
  have X : Stand p l e own_room_38 s m #[(.int i), (.int j)] below meth c T [] 0 0 := Stand.of_body Bd
  have eT : T.heap = h0 := by rw [← hh, Bd.state]; rfl
  have W := @own_Wd a0 Z hw
  have N := Fr.nil n0
  have O := hO
  refine own_enter (ef_38 m i j) ?_
  show own_Goes _ _ _ _ (own_P s (own_Qp (some (.int r)) h0) own_room_38.cells own_room_38.slots)
  refine o_iloadN X hx hB d38_0 rfl ?_
  refine o_iloadN X hx hB d38_1 rfl ?_
  by_cases hc2 : j < i
  · refine o_icmpYes X hx hB d38_2 (Jvm.Free.XT.ii_gt_t hc2) 9 ?_
    refine o_iloadN X hx hB d38_9 rfl ?_
    exact own_retI X hx Bd.returns (hb hB d38_10) (BodyLoose.notSynchronized Bd) ⟨(by rw [← hr, if_pos hc2]), rfl, eT⟩ (by decide) (by decide)
  · refine o_icmpNo X hx hB d38_2 (Jvm.Free.XT.ii_gt_f hc2) ?_
    refine o_iloadN X hx hB d38_5 rfl ?_
    refine o_goto X hx hB d38_6 10 ?_
    exact own_retI X hx Bd.returns (hb hB d38_10) (BodyLoose.notSynchronized Bd) ⟨(by rw [← hr, if_neg hc2]), rfl, eT⟩ (by decide) (by decide)
theorem d37_0 : decode jdk_65_method_120_code 0 = .ok (.aload_n 2, 1) := by decide +kernel
theorem d37_1 : decode jdk_65_method_120_code 1 = .ok (.ldc 110, 2) := by decide +kernel
theorem d37_3 : decode jdk_65_method_120_code 3 = .ok (.if_acmp .ne 10, 3) := by decide +kernel
theorem d37_6 : decode jdk_65_method_120_code 6 = .ok (.iload_n 1, 1) := by decide +kernel
theorem d37_7 : decode jdk_65_method_120_code 7 = .ok (.anewarray 2, 3) := by decide +kernel
theorem d37_10 : decode jdk_65_method_120_code 10 = .ok (.goto 14, 3) := by decide +kernel
theorem d37_24 : decode jdk_65_method_120_code 24 = .ok (.astore_n 3, 1) := by decide +kernel
theorem d37_25 : decode jdk_65_method_120_code 25 = .ok (.aload_n 0, 1) := by decide +kernel
theorem d37_26 : decode jdk_65_method_120_code 26 = .ok (.iconst 0, 1) := by decide +kernel
theorem d37_27 : decode jdk_65_method_120_code 27 = .ok (.aload_n 3, 1) := by decide +kernel
theorem d37_28 : decode jdk_65_method_120_code 28 = .ok (.iconst 0, 1) := by decide +kernel
theorem d37_29 : decode jdk_65_method_120_code 29 = .ok (.aload_n 0, 1) := by decide +kernel
theorem d37_30 : decode jdk_65_method_120_code 30 = .ok (.arraylength, 1) := by decide +kernel
theorem d37_31 : decode jdk_65_method_120_code 31 = .ok (.iload_n 1, 1) := by decide +kernel
theorem d37_32 : decode jdk_65_method_120_code 32 = .ok (.invokestatic 304, 3) := by decide +kernel
theorem d37_35 : decode jdk_65_method_120_code 35 = .ok (.invokestatic 150, 3) := by decide +kernel
theorem d37_38 : decode jdk_65_method_120_code 38 = .ok (.aload_n 3, 1) := by decide +kernel
theorem d37_39 : decode jdk_65_method_120_code 39 = .ok (.areturn, 1) := by decide +kernel
theorem pn_37 : plainName "java/util/Arrays" = true := by first | (simp [plainName, overriddenIn]; done) | decide +kernel
theorem ef_37 (m : MethodId) (ea : Addr) (n : Int32) : entryFrame m #[(.ref ea), (.int n), (.ref mr)] 4 = mkF m 0 #[.val (.ref ea), .val (.int n), .val (.ref mr), .unset] [] := by first | (simp [entryFrame, mkF, argsToLocals, Value.category]; done) | rfl
abbrev own_room_37 : Room := { frames := 1, cells := 1, slots := 3, locals := 40 }
def own_Q_37 (Z : State) (dc : Addr) (kd : ClassId) (cr : Addr) (cc : Cell) (mr : Addr) (ea : Addr) (n : Int32) (k : ClassId) (z : Int32) (vs us : List Value) (h0 : Heap) (n0 : Nat) (v : Option Value) (h : Heap) (L : List Loc) : Prop := ∃ b : Addr, ∃ k2 : ClassId, v = (some (.ref b)) ∧ Fr n0 L ∧ Keep h0 h [] ∧ own_AR Z h b k2 n us ∧ h0.size ≤ b
set_option maxRecDepth 65536 in
set_option maxHeartbeats 40000000 in
theorem rm_37 (l : Launch) (Z : State) (a0 : Array Value) (hw : own_Hw a0 Z) (ws : List Jvm.Cond) (dc : Addr) (kd : ClassId) (cr : Addr) (cc : Cell) (mr : Addr) (hG : own_G Z dc kd cr cc mr) (ea : Addr) (n : Int32) (k : ClassId) (z : Int32) (vs us : List Value) (h0 : Heap) (n0 : Nat) (Z0 : n0 ≤ h0.size) (hO : Old Z n0 h0) (V_ea : own_AR Z h0 ea k z vs) (hn0 : ¬ n < 0) (hn3 : n.toNatClampNeg ≤ 3) (hle : (if n < z then n else z) = n) (hz : n.toNatClampNeg ≤ z.toNatClampNeg) (hus : us = (List.range n.toNatClampNeg).map fun i => vs.getD ((0 : Int32).toNatClampNeg + i) Value.null) (hI : us.length = n.toNatClampNeg ∧ ∀ u ∈ us, ∃ y, u = Value.ref y ∧ Exa Z Z.heap y "java/lang/Integer") :
    own_Met l (⟨"java/util/Arrays", "copyOf", "([Ljava/lang/Object;ILjava/lang/Class;)[Ljava/lang/Object;"⟩ : MethodName) (Jvm.Cond.code (⟨"java/util/Arrays", "copyOf", "([Ljava/lang/Object;ILjava/lang/Class;)[Ljava/lang/Object;"⟩ : MethodName) jdk_65_method_120_code 4 (some (.array (.object "java/lang/Object")))) ws own_room_37 #[(.ref ea), (.int n), (.ref mr)] Z h0 (own_Q_37 Z dc kd cr cc mr ea n k z vs us h0 n0) own_room_37.cells own_room_37.slots := by
  refine MetFree.of_bodySF (plainFor_of_name pn_37) hisR ?_
  intro p e s m args below meth c T Bd hml0 hP hK
  obtain ⟨rfl, hZ, hh⟩ := hP
  obtain ⟨hx, hB⟩ := And.intro Bd.exec Bd.bytes
  have hml : c.maxLocals = 4 := hml0
  have hown : s.vm.findClass "java/util/Arrays" = some m.cls := findClass_of_methodNamed Bd.named
  have hnm := (name_of_methodNamed Bd.named Bd.method).1
  have X : Stand p l e own_room_37 s m #[(.ref ea), (.int n), (.ref mr)] below meth c T [] 0 0 := Stand.of_body Bd
  have eT : T.heap = h0 := by rw [← hh, Bd.state]; rfl
  have W := @own_Wd a0 Z hw
  have N := Fr.nil n0
  have O := hO
  have K := Keep.refl h0 []
  refine own_enter (ef_37 m ea n) ?_
  show own_Goes _ _ _ _ (own_P s (own_Q_37 Z dc kd cr cc mr ea n k z vs us h0 n0) own_room_37.cells own_room_37.slots)
  refine o_aloadN X hx hB d37_0 rfl rfl ?_
  refine own_k1 (own_ldcC X hx hZ hown (W 251 rfl) eT hG.2.2.2.2.2.1 (g := (mkF m 1 #[.val (.ref ea), .val (.int n), .val (.ref mr), .unset] [(.ref mr)])) rfl (hb hB d37_1)) rfl fun T X eT => ?_
  refine own_step (fun _ => Jvm.Free.XT.acmpNo X.here hx rfl (hb hB d37_3) rfl rfl rfl (by simp [Jvm.Free.XT.acmp])) ?_
  show own_Goes p.tables e below (T.setTop (mkF m 6 #[.val (.ref ea), .val (.int n), .val (.ref mr), .unset] [])) _
  refine o_iloadN X hx hB d37_6 rfl ?_
  obtain ⟨T, h2, b7, k_b7, X, e2, E2, g2, V_b7, st⟩ := own_newR X hx hZ hown (W 252 rfl) (W 66 rfl) eT (g := (mkF m 7 #[.val (.ref ea), .val (.int n), .val (.ref mr), .unset] [(.int n)])) rfl (hb hB d37_7) rfl 3 hn0 hn3 (by decide) (by decide) (by decide)
  have g_b7 := own_gn O g2
  have sz_b7 := own_gz K g2
  have K := K.ext E2
  have O := O.ext E2
  refine own_step (st) ?_
  show own_Goes p.tables e below (T.setTop (mkF m 10 #[.val (.ref ea), .val (.int n), .val (.ref mr), .unset] [(.ref b7)])) _
  refine o_goto X hx hB d37_10 24 ?_
  refine o_astoreN X hx hB #[.val (.ref ea), .val (.int n), .val (.ref mr), .val (.ref b7)] d37_24 rfl rfl ?_
  refine o_aloadN X hx hB d37_25 rfl rfl ?_
  refine o_iconst X hx hB d37_26 (0) ?_
  refine o_aloadN X hx hB d37_27 rfl rfl ?_
  refine o_iconst X hx hB d37_28 (0) ?_
  refine o_aloadN X hx hB d37_29 rfl rfl ?_
  have f3 := V_ea.ext E2
  refine own_step (own_lenR X hx hZ e2 f3 (g := (mkF m 30 #[.val (.ref ea), .val (.int n), .val (.ref mr), .val (.ref b7)] [(.ref ea), (.int (0 : Int32)), (.ref b7), (.int (0 : Int32)), (.ref ea)])) rfl rfl (hb hB d37_30)) ?_
  show own_Goes p.tables e below (T.setTop (mkF m 31 #[.val (.ref ea), .val (.int n), .val (.ref mr), .val (.ref b7)] [(.int z), (.int (0 : Int32)), (.ref b7), (.int (0 : Int32)), (.ref ea)])) _
  refine o_iloadN X hx hB d37_31 rfl ?_
  refine own_kP (own_cst X hx hZ hB (W := 4) hown (W 253 rfl) (W 254 rfl) (W 255 rfl) (W 63 rfl) (by decide) (rm_38 l Z a0 hw [] dc kd cr cc mr hG z n n _ n0 (own_zO O) O hle) (by decide) (by decide) e2 hml rfl pd_1 rfl rfl rfl d37_32 (by decide) (by decide)) rfl rfl fun T X eT => ?_
  obtain ⟨T, h4, L4, X, e4, N, Kq4, V4, st⟩ := own_cp X hx hZ hown (W 256 rfl) (W 259 rfl) (W 257 rfl) (W 258 rfl) eT f3 V_b7 (own_hI hI.2 O (W 67 rfl)) (by decide) (by decide) hn0 (own_p0 hz) (own_p0 (Nat.le_refl _)) hus (n0 := n0) N g_b7 (g := (mkF m 35 #[.val (.ref ea), .val (.int n), .val (.ref mr), .val (.ref b7)] [(.int n), (.int (0 : Int32)), (.ref b7), (.int (0 : Int32)), (.ref ea)])) rfl (by rw [hml]; rfl) rfl (hb hB d37_35) (by decide) (W := 0) (by show 2 * 0 + _ ≤ _; exact Nat.le_of_eq rfl) (by decide)
  have K := K.trans Kq4 (allS (Or.inr sz_b7) all0)
  have O := O.keep Kq4 (allS g_b7 all0)
  have V4 : own_AR Z h4 b7 k_b7 n us := (by have q := V4; rw [own_cp0] at q; exact q)
  refine own_step (st) ?_
  show own_Goes p.tables e below (T.setTop (mkF m 38 #[.val (.ref ea), .val (.int n), .val (.ref mr), .val (.ref b7)] [])) _
  refine o_aloadN X hx hB d37_38 rfl rfl ?_
  exact own_retA X hx Bd.returns (hb hB d37_39) (BodyLoose.notSynchronized Bd) rfl rfl (by rw [e4]; exact ⟨b7, k_b7, rfl, N, K, V4, sz_b7⟩) (by decide) (by decide)
theorem d36_0 : decode jdk_65_method_119_code 0 = .ok (.aload_n 0, 1) := by decide +kernel
theorem d36_1 : decode jdk_65_method_119_code 1 = .ok (.iload_n 1, 1) := by decide +kernel
theorem d36_2 : decode jdk_65_method_119_code 2 = .ok (.aload_n 0, 1) := by decide +kernel
theorem d36_3 : decode jdk_65_method_119_code 3 = .ok (.invokevirtual 86, 3) := by decide +kernel
theorem d36_6 : decode jdk_65_method_119_code 6 = .ok (.invokestatic 300, 3) := by decide +kernel
theorem d36_9 : decode jdk_65_method_119_code 9 = .ok (.areturn, 1) := by decide +kernel
theorem pd_12 : parseMethodDescriptor "([Ljava/lang/Object;ILjava/lang/Class;)[Ljava/lang/Object;" = some ⟨[(.array (.object "java/lang/Object")), .int, (.object "java/lang/Class")], some (.array (.object "java/lang/Object"))⟩ := by decide +kernel
theorem pn_36 : plainName "java/util/Arrays" = true := by first | (simp [plainName, overriddenIn]; done) | decide +kernel
theorem ef_36 (m : MethodId) (ea : Addr) (n : Int32) : entryFrame m #[(.ref ea), (.int n)] 2 = mkF m 0 #[.val (.ref ea), .val (.int n)] [] := by first | (simp [entryFrame, mkF, argsToLocals, Value.category]; done) | rfl
abbrev own_room_36 : Room := { frames := 2, cells := 1, slots := 3, locals := 55 }
def own_Q_36 (Z : State) (dc : Addr) (kd : ClassId) (cr : Addr) (cc : Cell) (mr : Addr) (ea : Addr) (n : Int32) (k : ClassId) (z : Int32) (vs us : List Value) (h0 : Heap) (n0 : Nat) (v : Option Value) (h : Heap) (L : List Loc) : Prop := ∃ b : Addr, ∃ k2 : ClassId, v = (some (.ref b)) ∧ Fr n0 L ∧ Keep h0 h [] ∧ own_AR Z h b k2 n us ∧ h0.size ≤ b
set_option maxRecDepth 65536 in
set_option maxHeartbeats 40000000 in
theorem rm_36 (l : Launch) (Z : State) (a0 : Array Value) (hw : own_Hw a0 Z) (ws : List Jvm.Cond) (dc : Addr) (kd : ClassId) (cr : Addr) (cc : Cell) (mr : Addr) (hG : own_G Z dc kd cr cc mr) (ea : Addr) (n : Int32) (k : ClassId) (z : Int32) (vs us : List Value) (h0 : Heap) (n0 : Nat) (Z0 : n0 ≤ h0.size) (hO : Old Z n0 h0) (V_ea : own_AR Z h0 ea k z vs) (hn0 : ¬ n < 0) (hn3 : n.toNatClampNeg ≤ 3) (hle : (if n < z then n else z) = n) (hz : n.toNatClampNeg ≤ z.toNatClampNeg) (hus : us = (List.range n.toNatClampNeg).map fun i => vs.getD ((0 : Int32).toNatClampNeg + i) Value.null) (hI : us.length = n.toNatClampNeg ∧ ∀ u ∈ us, ∃ y, u = Value.ref y ∧ Exa Z Z.heap y "java/lang/Integer") :
    own_Met l (⟨"java/util/Arrays", "copyOf", "([Ljava/lang/Object;I)[Ljava/lang/Object;"⟩ : MethodName) (Jvm.Cond.code (⟨"java/util/Arrays", "copyOf", "([Ljava/lang/Object;I)[Ljava/lang/Object;"⟩ : MethodName) jdk_65_method_119_code 2 (some (.array (.object "java/lang/Object")))) ws own_room_36 #[(.ref ea), (.int n)] Z h0 (own_Q_36 Z dc kd cr cc mr ea n k z vs us h0 n0) own_room_36.cells own_room_36.slots := by
  refine MetFree.of_bodySF (plainFor_of_name pn_36) hisR ?_
  intro p e s m args below meth c T Bd hml0 hP hK
  obtain ⟨rfl, hZ, hh⟩ := hP
  obtain ⟨hx, hB⟩ := And.intro Bd.exec Bd.bytes
  have hml : c.maxLocals = 2 := hml0
  have hown : s.vm.findClass "java/util/Arrays" = some m.cls := findClass_of_methodNamed Bd.named
  have hnm := (name_of_methodNamed Bd.named Bd.method).1
  have X : Stand p l e own_room_36 s m #[(.ref ea), (.int n)] below meth c T [] 0 0 := Stand.of_body Bd
  have eT : T.heap = h0 := by rw [← hh, Bd.state]; rfl
  have W := @own_Wd a0 Z hw
  have N := Fr.nil n0
  have O := hO
  have K := Keep.refl h0 []
  refine own_enter (ef_36 m ea n) ?_
  show own_Goes _ _ _ _ (own_P s (own_Q_36 Z dc kd cr cc mr ea n k z vs us h0 n0) own_room_36.cells own_room_36.slots)
  refine o_aloadN X hx hB d36_0 rfl rfl ?_
  refine o_iloadN X hx hB d36_1 rfl ?_
  refine o_aloadN X hx hB d36_2 rfl rfl ?_
  have f1 := V_ea.2.2.2
  refine own_k1 (own_gcls X hx hZ hown (W 242 rfl) (W 243 rfl) (W 245 rfl) (W 244 rfl) (W 246 rfl) eT f1 hG.2.2.2.2.2.1 (g := (mkF m 3 #[.val (.ref ea), .val (.int n)] [(.ref ea), (.int n), (.ref ea)])) rfl (by rw [hml]; rfl) rfl (hb hB d36_3) (by decide) (W := 2) (by show 2 * 0 + _ ≤ _; exact Nat.le_of_eq rfl) (by decide)) rfl fun T X eT => ?_
  refine own_kQ (own_cst X hx hZ hB (W := 0) hown (W 248 rfl) (W 249 rfl) (W 250 rfl) (W 240 rfl) (by decide) (rm_37 l Z a0 hw [] dc kd cr cc mr hG ea n k z vs us _ n0 (own_zO O) O V_ea hn0 hn3 hle hz hus hI) (by decide) (by decide) eT hml rfl pd_12 rfl rfl rfl d36_6 (by decide) (by decide)) fun v T L2 hQ X => ?_
  obtain ⟨b_6, k2_6, rfl, Nq2, Kq2, t2_0, t2_1⟩ := hQ
  have g_b_6 := Nat.le_trans (own_zO O) t2_1
  have sz_b_6 := Nat.le_trans K.1 t2_1
  have N := Fr.app N Nq2
  have K := K.trans Kq2 all0
  have O := O.keep Kq2 all0
  exact own_retA X hx Bd.returns (hb hB d36_9) (BodyLoose.notSynchronized Bd) rfl rfl ⟨b_6, k2_6, rfl, N, K, t2_0, sz_b_6⟩ (by decide) (by decide)
theorem d35_0 : decode jdk_38_method_16_code 0 = .ok (.aload_n 0, 1) := by decide +kernel
theorem d35_1 : decode jdk_38_method_16_code 1 = .ok (.getfield 9, 3) := by decide +kernel
theorem d35_4 : decode jdk_38_method_16_code 4 = .ok (.aload_n 0, 1) := by decide +kernel
theorem d35_5 : decode jdk_38_method_16_code 5 = .ok (.getfield 48, 3) := by decide +kernel
theorem d35_8 : decode jdk_38_method_16_code 8 = .ok (.invokestatic 66, 3) := by decide +kernel
theorem d35_11 : decode jdk_38_method_16_code 11 = .ok (.areturn, 1) := by decide +kernel
theorem pd_13 : parseMethodDescriptor "([Ljava/lang/Object;I)[Ljava/lang/Object;" = some ⟨[(.array (.object "java/lang/Object")), .int], some (.array (.object "java/lang/Object"))⟩ := by decide +kernel
theorem pn_35 : plainName "java/util/ArrayList" = true := by first | (simp [plainName, overriddenIn]; done) | decide +kernel
theorem ef_35 (m : MethodId) (a : Addr) : entryFrame m #[(.ref a)] 1 = mkF m 0 #[.val (.ref a)] [] := by first | (simp [entryFrame, mkF, argsToLocals, Value.category]; done) | rfl
abbrev own_room_35 : Room := { frames := 3, cells := 1, slots := 3, locals := 68 }
def own_Q_35 (Z : State) (dc : Addr) (kd : ClassId) (cr : Addr) (cc : Cell) (mr : Addr) (a ea : Addr) (n : Int32) (k : ClassId) (z : Int32) (vs us : List Value) (h0 : Heap) (n0 : Nat) (v : Option Value) (h : Heap) (L : List Loc) : Prop := ∃ b : Addr, ∃ k2 : ClassId, v = (some (.ref b)) ∧ Fr n0 L ∧ Keep h0 h [] ∧ own_AR Z h b k2 n us ∧ h0.size ≤ b
set_option maxRecDepth 65536 in
set_option maxHeartbeats 40000000 in
theorem rm_35 (l : Launch) (Z : State) (a0 : Array Value) (hw : own_Hw a0 Z) (ws : List Jvm.Cond) (dc : Addr) (kd : ClassId) (cr : Addr) (cc : Cell) (mr : Addr) (hG : own_G Z dc kd cr cc mr) (a ea : Addr) (n : Int32) (k : ClassId) (z : Int32) (vs us : List Value) (h0 : Heap) (n0 : Nat) (Z0 : n0 ≤ h0.size) (hO : Old Z n0 h0) (F_elementData_a : Fld Z h0 a "java/util/ArrayList" "elementData" "[Ljava/lang/Object;" (.ref ea)) (F_size_a : Fld Z h0 a "java/util/ArrayList" "size" "I" (.int n)) (V_ea : own_AR Z h0 ea k z vs) (hn0 : ¬ n < 0) (hn3 : n.toNatClampNeg ≤ 3) (hle : (if n < z then n else z) = n) (hz : n.toNatClampNeg ≤ z.toNatClampNeg) (hus : us = (List.range n.toNatClampNeg).map fun i => vs.getD ((0 : Int32).toNatClampNeg + i) Value.null) (hI : us.length = n.toNatClampNeg ∧ ∀ u ∈ us, ∃ y, u = Value.ref y ∧ Exa Z Z.heap y "java/lang/Integer") :
    own_Met l (⟨"java/util/ArrayList", "toArray", "()[Ljava/lang/Object;"⟩ : MethodName) (Jvm.Cond.code (⟨"java/util/ArrayList", "toArray", "()[Ljava/lang/Object;"⟩ : MethodName) jdk_38_method_16_code 1 (some (.array (.object "java/lang/Object")))) ws own_room_35 #[(.ref a)] Z h0 (own_Q_35 Z dc kd cr cc mr a ea n k z vs us h0 n0) own_room_35.cells own_room_35.slots := by
  refine MetFree.of_bodySF (plainFor_of_name pn_35) hisR ?_
  intro p e s m args below meth c T Bd hml0 hP hK
  obtain ⟨rfl, hZ, hh⟩ := hP
  obtain ⟨hx, hB⟩ := And.intro Bd.exec Bd.bytes
  have hml : c.maxLocals = 1 := hml0
  have hown : s.vm.findClass "java/util/ArrayList" = some m.cls := findClass_of_methodNamed Bd.named
  have hnm := (name_of_methodNamed Bd.named Bd.method).1
  have X : Stand p l e own_room_35 s m #[(.ref a)] below meth c T [] 0 0 := Stand.of_body Bd
  have eT : T.heap = h0 := by rw [← hh, Bd.state]; rfl
  have W := @own_Wd a0 Z hw
  have N := Fr.nil n0
  have O := hO
  have K := Keep.refl h0 []
  refine own_enter (ef_35 m a) ?_
  show own_Goes _ _ _ _ (own_P s (own_Q_35 Z dc kd cr cc mr a ea n k z vs us h0 n0) own_room_35.cells own_room_35.slots)
  refine o_aloadN X hx hB d35_0 rfl rfl ?_
  refine o_getF X hx hZ hB hown (W 24 rfl) Via.refl eT F_elementData_a d35_1 fun T X eT => ?_
  refine o_aloadN X hx hB d35_4 rfl rfl ?_
  refine o_getF X hx hZ hB hown (W 44 rfl) Via.refl eT F_size_a d35_5 fun T X eT => ?_
  refine own_kQ (own_cst X hx hZ hB (W := 0) hown (W 238 rfl) (W 239 rfl) (W 241 rfl) (W 240 rfl) (by decide) (rm_36 l Z a0 hw [] dc kd cr cc mr hG ea n k z vs us _ n0 (own_zO O) O V_ea hn0 hn3 hle hz hus hI) (by decide) (by decide) eT hml rfl pd_13 rfl rfl rfl d35_8 (by decide) (by decide)) fun v T L1 hQ X => ?_
  obtain ⟨b_8, k2_8, rfl, Nq1, Kq1, t1_0, t1_1⟩ := hQ
  have g_b_8 := Nat.le_trans (own_zO O) t1_1
  have sz_b_8 := Nat.le_trans K.1 t1_1
  have N := Fr.app N Nq1
  have K := K.trans Kq1 all0
  have O := O.keep Kq1 all0
  exact own_retA X hx Bd.returns (hb hB d35_11) (BodyLoose.notSynchronized Bd) rfl rfl ⟨b_8, k2_8, rfl, N, K, t1_0, sz_b_8⟩ (by decide) (by decide)
theorem d34_0 : decode jdk_38_method_41_code 0 = .ok (.aload_n 1, 1) := by decide +kernel
theorem d34_1 : decode jdk_38_method_41_code 1 = .ok (.invokeinterface 42 1, 5) := by decide +kernel
theorem d34_6 : decode jdk_38_method_41_code 6 = .ok (.astore_n 2, 1) := by decide +kernel
theorem d34_7 : decode jdk_38_method_41_code 7 = .ok (.aload_n 0, 1) := by decide +kernel
theorem d34_8 : decode jdk_38_method_41_code 8 = .ok (.dup, 1) := by decide +kernel
theorem d34_9 : decode jdk_38_method_41_code 9 = .ok (.getfield 63, 3) := by decide +kernel
theorem d34_12 : decode jdk_38_method_41_code 12 = .ok (.iconst 1, 1) := by decide +kernel
theorem d34_13 : decode jdk_38_method_41_code 13 = .ok (.iadd, 1) := by decide +kernel
theorem d34_14 : decode jdk_38_method_41_code 14 = .ok (.putfield 63, 3) := by decide +kernel
theorem d34_17 : decode jdk_38_method_41_code 17 = .ok (.aload_n 2, 1) := by decide +kernel
theorem d34_18 : decode jdk_38_method_41_code 18 = .ok (.arraylength, 1) := by decide +kernel
theorem d34_19 : decode jdk_38_method_41_code 19 = .ok (.istore_n 3, 1) := by decide +kernel
theorem d34_20 : decode jdk_38_method_41_code 20 = .ok (.iload_n 3, 1) := by decide +kernel
theorem d34_21 : decode jdk_38_method_41_code 21 = .ok (.ifCond .ne 5, 3) := by decide +kernel
theorem d34_24 : decode jdk_38_method_41_code 24 = .ok (.iconst 0, 1) := by decide +kernel
theorem d34_25 : decode jdk_38_method_41_code 25 = .ok (.ireturn, 1) := by decide +kernel
theorem pn_34 : plainName "java/util/ArrayList" = true := by first | (simp [plainName, overriddenIn]; done) | decide +kernel
theorem ef_34e (m : MethodId) (a : Addr) (cl : Addr) : entryFrame m #[(.ref a), (.ref cl)] 6 = mkF m 0 #[.val (.ref a), .val (.ref cl), .unset, .unset, .unset, .unset] [] := by first | (simp [entryFrame, mkF, argsToLocals, Value.category]; done) | rfl
abbrev own_room_34e : Room := { frames := 4, cells := 1, slots := 3, locals := 80 }
def own_Q_34e (Z : State) (dc : Addr) (kd : ClassId) (cr : Addr) (cc : Cell) (mr : Addr) (a cl ea : Addr) (z mc : Int32) (h0 : Heap) (n0 : Nat) (v : Option Value) (h : Heap) (L : List Loc) : Prop := v = (some (.int (0 : Int32))) ∧ Fr n0 L ∧ Keep h0 h [a] ∧ Exa Z h a "java/util/ArrayList" ∧ Fld Z h a "java/util/AbstractList" "modCount" "I" (.int (mc + (1 : Int32))) ∧ Fld Z h a "java/util/ArrayList" "elementData" "[Ljava/lang/Object;" (.ref ea) ∧ Fld Z h a "java/util/ArrayList" "size" "I" (.int z)
set_option maxRecDepth 65536 in
set_option maxHeartbeats 40000000 in
theorem rm_34e (l : Launch) (Z : State) (a0 : Array Value) (hw : own_Hw a0 Z) (ws : List Jvm.Cond) (dc : Addr) (kd : ClassId) (cr : Addr) (cc : Cell) (mr : Addr) (hG : own_G Z dc kd cr cc mr) (a cl ea : Addr) (z mc : Int32) (h0 : Heap) (n0 : Nat) (Z0 : n0 ≤ h0.size) (hO : Old Z n0 h0) (E_a : Exa Z h0 a "java/util/ArrayList") (F_modCount_a : Fld Z h0 a "java/util/AbstractList" "modCount" "I" (.int mc)) (F_elementData_a : Fld Z h0 a "java/util/ArrayList" "elementData" "[Ljava/lang/Object;" (.ref ea)) (F_size_a : Fld Z h0 a "java/util/ArrayList" "size" "I" (.int z)) (E_cl : Exa Z h0 cl "java/util/ArrayList") (F_elementData_cl : Fld Z h0 cl "java/util/ArrayList" "elementData" "[Ljava/lang/Object;" (.ref dc)) (F_size_cl : Fld Z h0 cl "java/util/ArrayList" "size" "I" (.int (0 : Int32))) (ne_a_cl : a ≠ cl) (g_a : n0 ≤ a) :
    own_Met l (⟨"java/util/ArrayList", "addAll", "(Ljava/util/Collection;)Z"⟩ : MethodName) (Jvm.Cond.code (⟨"java/util/ArrayList", "addAll", "(Ljava/util/Collection;)Z"⟩ : MethodName) jdk_38_method_41_code 6 (some .boolean)) ws own_room_34e #[(.ref a), (.ref cl)] Z h0 (own_Q_34e Z dc kd cr cc mr a cl ea z mc h0 n0) own_room_34e.cells own_room_34e.slots := by
  refine MetFree.of_bodySF (plainFor_of_name pn_34) hisR ?_
  intro p e s m args below meth c T Bd hml0 hP hK
  obtain ⟨rfl, hZ, hh⟩ := hP
  obtain ⟨hx, hB⟩ := And.intro Bd.exec Bd.bytes
  have hml : c.maxLocals = 6 := hml0
  have hown : s.vm.findClass "java/util/ArrayList" = some m.cls := findClass_of_methodNamed Bd.named
  have hnm := (name_of_methodNamed Bd.named Bd.method).1
  have X : Stand p l e own_room_34e s m #[(.ref a), (.ref cl)] below meth c T [] 0 0 := Stand.of_body Bd
  have eT : T.heap = h0 := by rw [← hh, Bd.state]; rfl
  have W := @own_Wd a0 Z hw
  have N := Fr.nil n0
  have O := hO
  have K := Keep.refl h0 [a]
  refine own_enter (ef_34e m a cl) ?_
  show own_Goes _ _ _ _ (own_P s (own_Q_34e Z dc kd cr cc mr a cl ea z mc h0 n0) own_room_34e.cells own_room_34e.slots)
  refine o_aloadN X hx hB d34_0 rfl rfl ?_
  refine own_kQ (own_cif X hx hZ hB (W := 0) hown (W 229 rfl) (W 230 rfl) (W 231 rfl) (W 232 rfl) (W 233 rfl) (W 234 rfl) (W 235 rfl) (W 236 rfl) (W 237 rfl) (W 2 rfl) (by decide) (rm_35 l Z a0 hw [] dc kd cr cc mr hG cl dc (0 : Int32) kd (0 : Int32) [] [] _ n0 (own_zO O) O F_elementData_cl F_size_cl (own_AR.ext hG.2.1 O.2) (by decide) (by decide) (by decide) (by decide) rfl ⟨rfl, fun u hu => by cases hu⟩) (by decide) (by decide) eT E_cl hml rfl pd_3 rfl rfl rfl d34_1 (by decide) (by decide)) fun v T L1 hQ X => ?_
  obtain ⟨b_1, k2_1, rfl, Nq1, Kq1, t1_0, t1_1⟩ := hQ
  have g_b_1 := Nat.le_trans (own_zO O) t1_1
  have sz_b_1 := Nat.le_trans K.1 t1_1
  have N := Fr.app N Nq1
  have K := K.trans Kq1 all0
  have O := O.keep Kq1 all0
  refine o_astoreN X hx hB #[.val (.ref a), .val (.ref cl), .val (.ref b_1), .unset, .unset, .unset] d34_6 rfl rfl ?_
  refine o_aloadN X hx hB d34_7 rfl rfl ?_
  refine o_dup X hx hB d34_8 rfl ?_
  have f2 := F_modCount_a.keep Kq1 nin0
  refine o_getF X hx hZ hB hown (W 42 rfl) (Via.of (W 43 rfl)) rfl f2 d34_9 fun T X eT => ?_
  refine o_iconst X hx hB d34_12 (1) ?_
  refine o_iadd X hx hB d34_13 ?_
  have f3 := E_a.keep Kq1
  refine o_putF X hx hZ hB hown (W 42 rfl) (Via.of (W 43 rfl)) eT f2 f3 (Or.inl (W 22 rfl)) (W 1 rfl) (ty := .int) (by decide) rfl rfl d34_14 fun T h4 X eT W4 => ?_
  have N := Fr.snoc X N g_a
  have K := K.wr W4 (Or.inl (List.mem_of_getElem? (i := 0) rfl))
  have O := O.wr W4 g_a
  refine o_aloadN X hx hB d34_17 rfl rfl ?_
  have z5 := own_ne2 E_a.lt t1_1
  have f6 := t1_0.other W4 (Ne.symm z5)
  refine own_step (own_lenR X hx hZ eT f6 (g := (mkF m 18 #[.val (.ref a), .val (.ref cl), .val (.ref b_1), .unset, .unset, .unset] [(.ref b_1)])) rfl rfl (hb hB d34_18)) ?_
  show own_Goes p.tables e below (T.setTop (mkF m 19 #[.val (.ref a), .val (.ref cl), .val (.ref b_1), .unset, .unset, .unset] [(.int (0 : Int32))])) _
  refine o_istoreN X hx hB #[.val (.ref a), .val (.ref cl), .val (.ref b_1), .val (.int (0 : Int32)), .unset, .unset] d34_19 rfl ?_
  refine o_iloadN X hx hB d34_20 rfl ?_
  refine o_ifNo X hx hB d34_21 (Jvm.Free.XT.i0_ne_f rfl) ?_
  refine o_iconst X hx hB d34_24 (0) ?_
  have f7 := f3.wr W4
  have f8 := f2.same W4
  have f9 := (F_elementData_a.keep Kq1 nin0).other W4 (Or.inr (slot_ne (Or.inl (W 25 rfl)) (Or.inl (W 22 rfl)) (by decide) (t := (.array (.object "java/lang/Object"))) (t' := .int) (by decide) (by decide)))
  have f10 := (F_size_a.keep Kq1 nin0).other W4 (Or.inr (slot_ne (Or.inl (W 45 rfl)) (Or.inl (W 22 rfl)) (by decide) (t := .int) (t' := .int) (by decide) (by decide)))
  exact own_retN X hx (t := .boolean) Bd.returns (by simp) (hb hB d34_25) (BodyLoose.notSynchronized Bd) (w := (0 : Int32)) rfl (by rw [eT]; exact ⟨rfl, N, K, f7, f8, f9, f10⟩) (by decide) (by decide)
theorem d34_26 : decode jdk_38_method_41_code 26 = .ok (.iload_n 3, 1) := by decide +kernel
theorem d34_27 : decode jdk_38_method_41_code 27 = .ok (.aload_n 0, 1) := by decide +kernel
theorem d34_28 : decode jdk_38_method_41_code 28 = .ok (.getfield 9, 3) := by decide +kernel
theorem d34_31 : decode jdk_38_method_41_code 31 = .ok (.dup, 1) := by decide +kernel
theorem d34_32 : decode jdk_38_method_41_code 32 = .ok (.astore 4, 2) := by decide +kernel
theorem d34_34 : decode jdk_38_method_41_code 34 = .ok (.arraylength, 1) := by decide +kernel
theorem d34_35 : decode jdk_38_method_41_code 35 = .ok (.aload_n 0, 1) := by decide +kernel
theorem d34_36 : decode jdk_38_method_41_code 36 = .ok (.getfield 48, 3) := by decide +kernel
theorem d34_39 : decode jdk_38_method_41_code 39 = .ok (.dup, 1) := by decide +kernel
theorem d34_40 : decode jdk_38_method_41_code 40 = .ok (.istore 5, 2) := by decide +kernel
theorem d34_42 : decode jdk_38_method_41_code 42 = .ok (.isub, 1) := by decide +kernel
theorem d34_43 : decode jdk_38_method_41_code 43 = .ok (.if_icmp .le 13, 3) := by decide +kernel
theorem d34_46 : decode jdk_38_method_41_code 46 = .ok (.aload_n 0, 1) := by decide +kernel
theorem d34_47 : decode jdk_38_method_41_code 47 = .ok (.iload 5, 2) := by decide +kernel
theorem d34_49 : decode jdk_38_method_41_code 49 = .ok (.iload_n 3, 1) := by decide +kernel
theorem d34_50 : decode jdk_38_method_41_code 50 = .ok (.iadd, 1) := by decide +kernel
theorem d34_51 : decode jdk_38_method_41_code 51 = .ok (.invokevirtual 69, 3) := by decide +kernel
theorem d34_54 : decode jdk_38_method_41_code 54 = .ok (.astore 4, 2) := by decide +kernel
theorem d34_56 : decode jdk_38_method_41_code 56 = .ok (.aload_n 2, 1) := by decide +kernel
theorem d34_57 : decode jdk_38_method_41_code 57 = .ok (.iconst 0, 1) := by decide +kernel
theorem d34_58 : decode jdk_38_method_41_code 58 = .ok (.aload 4, 2) := by decide +kernel
theorem d34_60 : decode jdk_38_method_41_code 60 = .ok (.iload 5, 2) := by decide +kernel
theorem d34_62 : decode jdk_38_method_41_code 62 = .ok (.iload_n 3, 1) := by decide +kernel
theorem d34_63 : decode jdk_38_method_41_code 63 = .ok (.invokestatic 112, 3) := by decide +kernel
theorem d34_66 : decode jdk_38_method_41_code 66 = .ok (.aload_n 0, 1) := by decide +kernel
theorem d34_67 : decode jdk_38_method_41_code 67 = .ok (.iload 5, 2) := by decide +kernel
theorem d34_69 : decode jdk_38_method_41_code 69 = .ok (.iload_n 3, 1) := by decide +kernel
theorem d34_70 : decode jdk_38_method_41_code 70 = .ok (.iadd, 1) := by decide +kernel
theorem d34_71 : decode jdk_38_method_41_code 71 = .ok (.putfield 48, 3) := by decide +kernel
theorem d34_74 : decode jdk_38_method_41_code 74 = .ok (.iconst 1, 1) := by decide +kernel
theorem d34_75 : decode jdk_38_method_41_code 75 = .ok (.ireturn, 1) := by decide +kernel
theorem ef_34f (m : MethodId) (a : Addr) (cl : Addr) : entryFrame m #[(.ref a), (.ref cl)] 6 = mkF m 0 #[.val (.ref a), .val (.ref cl), .unset, .unset, .unset, .unset] [] := by first | (simp [entryFrame, mkF, argsToLocals, Value.category]; done) | rfl
abbrev own_room_34f : Room := { frames := 4, cells := 2, slots := 13, locals := 80 }
def own_Q_34f (Z : State) (dc : Addr) (kd : ClassId) (cr : Addr) (cc : Cell) (mr : Addr) (a cl : Addr) (mc : Int32) (ec : Addr) (n : Int32) (kc : ClassId) (vc us : List Value) (h0 : Heap) (n0 : Nat) (v : Option Value) (h : Heap) (L : List Loc) : Prop := ∃ b : Addr, ∃ k : ClassId, v = (some (.int (1 : Int32))) ∧ Fr n0 L ∧ Keep h0 h [a] ∧ Exa Z h a "java/util/ArrayList" ∧ Fld Z h a "java/util/AbstractList" "modCount" "I" (.int (mc + (1 : Int32))) ∧ Fld Z h a "java/util/ArrayList" "elementData" "[Ljava/lang/Object;" (.ref b) ∧ Fld Z h a "java/util/ArrayList" "size" "I" (.int ((0 : Int32) + n)) ∧ own_AR Z h b k (10 : Int32) (us ++ List.replicate (10 - n.toNatClampNeg) Value.null) ∧ h0.size ≤ b ∧ a ≠ b
set_option maxRecDepth 65536 in
set_option maxHeartbeats 40000000 in
theorem rm_34f (l : Launch) (Z : State) (a0 : Array Value) (hw : own_Hw a0 Z) (ws : List Jvm.Cond) (dc : Addr) (kd : ClassId) (cr : Addr) (cc : Cell) (mr : Addr) (hG : own_G Z dc kd cr cc mr) (a cl : Addr) (mc : Int32) (ec : Addr) (n : Int32) (kc : ClassId) (vc us : List Value) (h0 : Heap) (n0 : Nat) (Z0 : n0 ≤ h0.size) (hO : Old Z n0 h0) (E_a : Exa Z h0 a "java/util/ArrayList") (F_modCount_a : Fld Z h0 a "java/util/AbstractList" "modCount" "I" (.int mc)) (F_elementData_a : Fld Z h0 a "java/util/ArrayList" "elementData" "[Ljava/lang/Object;" (.ref dc)) (F_size_a : Fld Z h0 a "java/util/ArrayList" "size" "I" (.int (0 : Int32))) (E_cl : Exa Z h0 cl "java/util/ArrayList") (F_elementData_cl : Fld Z h0 cl "java/util/ArrayList" "elementData" "[Ljava/lang/Object;" (.ref ec)) (F_size_cl : Fld Z h0 cl "java/util/ArrayList" "size" "I" (.int n)) (V_ec : own_AR Z h0 ec kc (10 : Int32) vc) (ne_a_cl : a ≠ cl) (g_a : n0 ≤ a) (hn0 : ¬ n < 0) (hn3 : n.toNatClampNeg ≤ 3) (hle : (if n < (10 : Int32) then n else (10 : Int32)) = n) (hz : n.toNatClampNeg ≤ (10 : Int32).toNatClampNeg) (hus : us = (List.range n.toNatClampNeg).map fun i => vc.getD ((0 : Int32).toNatClampNeg + i) Value.null) (hI : us.length = n.toNatClampNeg ∧ ∀ u ∈ us, ∃ y, u = Value.ref y ∧ Exa Z Z.heap y "java/lang/Integer") (hnz : ¬ (n = 0)) (hgt : ((0 : Int32) - (0 : Int32)) < n) (hg : ¬ ((10 : Int32) < ((0 : Int32) + n))) :
    own_Met l (⟨"java/util/ArrayList", "addAll", "(Ljava/util/Collection;)Z"⟩ : MethodName) (Jvm.Cond.code (⟨"java/util/ArrayList", "addAll", "(Ljava/util/Collection;)Z"⟩ : MethodName) jdk_38_method_41_code 6 (some .boolean)) ws own_room_34f #[(.ref a), (.ref cl)] Z h0 (own_Q_34f Z dc kd cr cc mr a cl mc ec n kc vc us h0 n0) own_room_34f.cells own_room_34f.slots := by
  refine MetFree.of_bodySF (plainFor_of_name pn_34) hisR ?_
  intro p e s m args below meth c T Bd hml0 hP hK
  obtain ⟨rfl, hZ, hh⟩ := hP
  obtain ⟨hx, hB⟩ := And.intro Bd.exec Bd.bytes
  have hml : c.maxLocals = 6 := hml0
  have hown : s.vm.findClass "java/util/ArrayList" = some m.cls := findClass_of_methodNamed Bd.named
  have hnm := (name_of_methodNamed Bd.named Bd.method).1
  have X : Stand p l e own_room_34f s m #[(.ref a), (.ref cl)] below meth c T [] 0 0 := Stand.of_body Bd
  have eT : T.heap = h0 := by rw [← hh, Bd.state]; rfl
  have W := @own_Wd a0 Z hw
  have N := Fr.nil n0
  have O := hO
  have K := Keep.refl h0 [a]
  refine own_enter (ef_34f m a cl) ?_
  show own_Goes _ _ _ _ (own_P s (own_Q_34f Z dc kd cr cc mr a cl mc ec n kc vc us h0 n0) own_room_34f.cells own_room_34f.slots)
  refine o_aloadN X hx hB d34_0 rfl rfl ?_
  refine own_kQ (own_cif X hx hZ hB (W := 0) hown (W 229 rfl) (W 230 rfl) (W 231 rfl) (W 232 rfl) (W 233 rfl) (W 234 rfl) (W 235 rfl) (W 236 rfl) (W 237 rfl) (W 2 rfl) (by decide) (rm_35 l Z a0 hw [] dc kd cr cc mr hG cl ec n kc (10 : Int32) vc us _ n0 (own_zO O) O F_elementData_cl F_size_cl V_ec hn0 hn3 hle hz hus hI) (by decide) (by decide) eT E_cl hml rfl pd_3 rfl rfl rfl d34_1 (by decide) (by decide)) fun v T L1 hQ X => ?_
  obtain ⟨b_1, k2_1, rfl, Nq1, Kq1, t1_0, t1_1⟩ := hQ
  have g_b_1 := Nat.le_trans (own_zO O) t1_1
  have sz_b_1 := Nat.le_trans K.1 t1_1
  have N := Fr.app N Nq1
  have K := K.trans Kq1 all0
  have O := O.keep Kq1 all0
  refine o_astoreN X hx hB #[.val (.ref a), .val (.ref cl), .val (.ref b_1), .unset, .unset, .unset] d34_6 rfl rfl ?_
  refine o_aloadN X hx hB d34_7 rfl rfl ?_
  refine o_dup X hx hB d34_8 rfl ?_
  have f2 := F_modCount_a.keep Kq1 nin0
  refine o_getF X hx hZ hB hown (W 42 rfl) (Via.of (W 43 rfl)) rfl f2 d34_9 fun T X eT => ?_
  refine o_iconst X hx hB d34_12 (1) ?_
  refine o_iadd X hx hB d34_13 ?_
  have f3 := E_a.keep Kq1
  refine o_putF X hx hZ hB hown (W 42 rfl) (Via.of (W 43 rfl)) eT f2 f3 (Or.inl (W 22 rfl)) (W 1 rfl) (ty := .int) (by decide) rfl rfl d34_14 fun T h4 X eT W4 => ?_
  have N := Fr.snoc X N g_a
  have K := K.wr W4 (Or.inl (List.mem_of_getElem? (i := 0) rfl))
  have O := O.wr W4 g_a
  refine o_aloadN X hx hB d34_17 rfl rfl ?_
  have z5 := own_ne2 E_a.lt t1_1
  have f6 := t1_0.other W4 (Ne.symm z5)
  refine own_step (own_lenR X hx hZ eT f6 (g := (mkF m 18 #[.val (.ref a), .val (.ref cl), .val (.ref b_1), .unset, .unset, .unset] [(.ref b_1)])) rfl rfl (hb hB d34_18)) ?_
  show own_Goes p.tables e below (T.setTop (mkF m 19 #[.val (.ref a), .val (.ref cl), .val (.ref b_1), .unset, .unset, .unset] [(.int n)])) _
  refine o_istoreN X hx hB #[.val (.ref a), .val (.ref cl), .val (.ref b_1), .val (.int n), .unset, .unset] d34_19 rfl ?_
  refine o_iloadN X hx hB d34_20 rfl ?_
  refine o_ifYes X hx hB d34_21 (Jvm.Free.XT.i0_ne_t hnz) 26 ?_
  refine o_iloadN X hx hB d34_26 rfl ?_
  refine o_aloadN X hx hB d34_27 rfl rfl ?_
  have f7 := (F_elementData_a.keep Kq1 nin0).other W4 (Or.inr (slot_ne (Or.inl (W 25 rfl)) (Or.inl (W 22 rfl)) (by decide) (t := (.array (.object "java/lang/Object"))) (t' := .int) (by decide) (by decide)))
  refine o_getF X hx hZ hB hown (W 24 rfl) Via.refl eT f7 d34_28 fun T X eT => ?_
  refine o_dup X hx hB d34_31 rfl ?_
  refine o_astore X hx hB #[.val (.ref a), .val (.ref cl), .val (.ref b_1), .val (.int n), .val (.ref dc), .unset] d34_32 rfl rfl ?_
  refine own_step (own_lenR X hx hZ eT (own_AR.ext hG.2.1 O.2) (g := (mkF m 34 #[.val (.ref a), .val (.ref cl), .val (.ref b_1), .val (.int n), .val (.ref dc), .unset] [(.ref dc), (.int n)])) rfl rfl (hb hB d34_34)) ?_
  show own_Goes p.tables e below (T.setTop (mkF m 35 #[.val (.ref a), .val (.ref cl), .val (.ref b_1), .val (.int n), .val (.ref dc), .unset] [(.int (0 : Int32)), (.int n)])) _
  refine o_aloadN X hx hB d34_35 rfl rfl ?_
  have f8 := (F_size_a.keep Kq1 nin0).other W4 (Or.inr (slot_ne (Or.inl (W 45 rfl)) (Or.inl (W 22 rfl)) (by decide) (t := .int) (t' := .int) (by decide) (by decide)))
  refine o_getF X hx hZ hB hown (W 44 rfl) Via.refl eT f8 d34_36 fun T X eT => ?_
  refine o_dup X hx hB d34_39 rfl ?_
  refine o_istore X hx hB #[.val (.ref a), .val (.ref cl), .val (.ref b_1), .val (.int n), .val (.ref dc), .val (.int (0 : Int32))] d34_40 rfl ?_
  refine o_isub X hx hB d34_42 ?_
  refine o_icmpNo X hx hB d34_43 (Jvm.Free.XT.ii_le_f hgt) ?_
  refine o_aloadN X hx hB d34_46 rfl rfl ?_
  refine o_iload X hx hB d34_47 rfl ?_
  refine o_iloadN X hx hB d34_49 rfl ?_
  refine o_iadd X hx hB d34_50 ?_
  have f9 := f3.wr W4
  have f10 := f2.same W4
  refine own_kQ (own_cpv X hx hZ hB (W := 0) hown (W 56 rfl) (W 57 rfl) (W 59 rfl) (W 58 rfl) (W 60 rfl) (W 2 rfl) (by decide) (rm_9 l Z a0 hw [] dc kd cr cc mr hG a ((0 : Int32) + n) (mc + (1 : Int32)) (0 : Int32) _ n0 (own_zO O) O f9 f10 f7 f8 g_a hg) (by decide) (by decide) eT f9 hml rfl pd_2 rfl rfl rfl d34_51 (by decide) (by decide)) fun v T L11 hQ X => ?_
  obtain ⟨b_51, k_51, rfl, Nq11, Kq11, t11_0, t11_1, t11_2, t11_3, t11_4, t11_5, t11_6⟩ := hQ
  have g_b_51 := Nat.le_trans (own_zO O) t11_5
  have sz_b_51 := Nat.le_trans K.1 t11_5
  have N := Fr.app N Nq11
  have K := K.trans Kq11 (allS (Or.inl (List.mem_of_getElem? (i := 0) rfl)) all0)
  have O := O.keep Kq11 (allS g_a all0)
  refine o_astore X hx hB #[.val (.ref a), .val (.ref cl), .val (.ref b_1), .val (.int n), .val (.ref b_51), .val (.int (0 : Int32))] d34_54 rfl rfl ?_
  refine o_aloadN X hx hB d34_56 rfl rfl ?_
  refine o_iconst X hx hB d34_57 (0) ?_
  refine o_aload X hx hB d34_58 rfl rfl ?_
  refine o_iload X hx hB d34_60 rfl ?_
  refine o_iloadN X hx hB d34_62 rfl ?_
  have f12 := f6.keep Kq11 (ninS (Ne.symm z5) nin0)
  obtain ⟨T, h13, L13, X, e13, N, Kq13, V13, st⟩ := own_cp X hx hZ hown (W 260 rfl) (W 259 rfl) (W 257 rfl) (W 258 rfl) rfl f12 t11_4 (own_hI hI.2 O (W 67 rfl)) (by decide) (by decide) hn0 (own_p0 (Nat.le_refl _)) (own_p0 (by have : (10 : Int32).toNatClampNeg = 10 := rfl; omega)) (own_self hI.1) (n0 := n0) N g_b_51 (g := (mkF m 63 #[.val (.ref a), .val (.ref cl), .val (.ref b_1), .val (.int n), .val (.ref b_51), .val (.int (0 : Int32))] [(.int n), (.int (0 : Int32)), (.ref b_51), (.int (0 : Int32)), (.ref b_1)])) rfl (by rw [hml]; rfl) rfl (hb hB d34_63) (by decide) (W := 0) (by show 2 * 0 + _ ≤ _; exact Nat.le_of_eq rfl) (by decide)
  have K := K.trans Kq13 (allS (Or.inr sz_b_51) all0)
  have O := O.keep Kq13 (allS g_b_51 all0)
  have V13 : own_AR Z h13 b_51 k_51 (10 : Int32) (us ++ List.replicate (10 - n.toNatClampNeg) Value.null) := (by have q := V13; rw [own_cpf] at q; exact q)
  refine own_step (st) ?_
  show own_Goes p.tables e below (T.setTop (mkF m 66 #[.val (.ref a), .val (.ref cl), .val (.ref b_1), .val (.int n), .val (.ref b_51), .val (.int (0 : Int32))] [])) _
  refine o_aloadN X hx hB d34_66 rfl rfl ?_
  refine o_iload X hx hB d34_67 rfl ?_
  refine o_iloadN X hx hB d34_69 rfl ?_
  refine o_iadd X hx hB d34_70 ?_
  have f14 := t11_0.keep Kq13
  have f15 := t11_3.keep Kq13 (ninS t11_6 nin0)
  refine o_putF X hx hZ hB hown (W 44 rfl) Via.refl e13 f15 f14 (Or.inl (W 45 rfl)) (W 1 rfl) (ty := .int) (by decide) rfl rfl d34_71 fun T h16 X eT W16 => ?_
  have N := Fr.snoc X N g_a
  have K := K.wr W16 (Or.inl (List.mem_of_getElem? (i := 0) rfl))
  have O := O.wr W16 g_a
  refine o_iconst X hx hB d34_74 (1) ?_
  have f17 := f14.wr W16
  have f18 := (t11_1.keep Kq13 (ninS t11_6 nin0)).other W16 (Or.inr (slot_ne (Or.inl (W 22 rfl)) (Or.inl (W 45 rfl)) (by decide) (t := .int) (t' := .int) (by decide) (by decide)))
  have f19 := (t11_2.keep Kq13 (ninS t11_6 nin0)).other W16 (Or.inr (slot_ne (Or.inl (W 25 rfl)) (Or.inl (W 45 rfl)) (by decide) (t := (.array (.object "java/lang/Object"))) (t' := .int) (by decide) (by decide)))
  have f20 := f15.same W16
  have f21 := V13.other W16 (Ne.symm t11_6)
  exact own_retN X hx (t := .boolean) Bd.returns (by simp) (hb hB d34_75) (BodyLoose.notSynchronized Bd) (w := (1 : Int32)) rfl (by rw [eT]; exact ⟨b_51, k_51, rfl, N, K, f17, f18, f19, f20, f21, sz_b_51, t11_6⟩) (by decide) (by decide)
theorem ef_34r (m : MethodId) (a : Addr) (cl : Addr) : entryFrame m #[(.ref a), (.ref cl)] 6 = mkF m 0 #[.val (.ref a), .val (.ref cl), .unset, .unset, .unset, .unset] [] := by first | (simp [entryFrame, mkF, argsToLocals, Value.category]; done) | rfl
abbrev own_room_34r : Room := { frames := 4, cells := 1, slots := 3, locals := 80 }
def own_Q_34r (Z : State) (dc : Addr) (kd : ClassId) (cr : Addr) (cc : Cell) (mr : Addr) (a cl : Addr) (mc : Int32) (ea : Addr) (k : ClassId) (vs : List Value) (i : Int32) (ec : Addr) (n : Int32) (kc : ClassId) (vc us : List Value) (h0 : Heap) (n0 : Nat) (v : Option Value) (h : Heap) (L : List Loc) : Prop := v = (some (.int (1 : Int32))) ∧ Fr n0 L ∧ Keep h0 h [a, ea] ∧ Exa Z h a "java/util/ArrayList" ∧ Fld Z h a "java/util/AbstractList" "modCount" "I" (.int (mc + (1 : Int32))) ∧ Fld Z h a "java/util/ArrayList" "elementData" "[Ljava/lang/Object;" (.ref ea) ∧ Fld Z h a "java/util/ArrayList" "size" "I" (.int (i + n)) ∧ own_AR Z h ea k (10 : Int32) (vs.take i.toNatClampNeg ++ us ++ vs.drop (i.toNatClampNeg + n.toNatClampNeg)) ∧ a ≠ ea
set_option maxRecDepth 65536 in
set_option maxHeartbeats 40000000 in
theorem rm_34r (l : Launch) (Z : State) (a0 : Array Value) (hw : own_Hw a0 Z) (ws : List Jvm.Cond) (dc : Addr) (kd : ClassId) (cr : Addr) (cc : Cell) (mr : Addr) (hG : own_G Z dc kd cr cc mr) (a cl : Addr) (mc : Int32) (ea : Addr) (k : ClassId) (vs : List Value) (i : Int32) (ec : Addr) (n : Int32) (kc : ClassId) (vc us : List Value) (h0 : Heap) (n0 : Nat) (Z0 : n0 ≤ h0.size) (hO : Old Z n0 h0) (E_a : Exa Z h0 a "java/util/ArrayList") (F_modCount_a : Fld Z h0 a "java/util/AbstractList" "modCount" "I" (.int mc)) (F_elementData_a : Fld Z h0 a "java/util/ArrayList" "elementData" "[Ljava/lang/Object;" (.ref ea)) (F_size_a : Fld Z h0 a "java/util/ArrayList" "size" "I" (.int i)) (V_ea : own_AR Z h0 ea k (10 : Int32) vs) (ne_a_ea : a ≠ ea) (E_cl : Exa Z h0 cl "java/util/ArrayList") (F_elementData_cl : Fld Z h0 cl "java/util/ArrayList" "elementData" "[Ljava/lang/Object;" (.ref ec)) (F_size_cl : Fld Z h0 cl "java/util/ArrayList" "size" "I" (.int n)) (V_ec : own_AR Z h0 ec kc (10 : Int32) vc) (ne_a_cl : a ≠ cl) (ne_ea_ec : ea ≠ ec) (g_a : n0 ≤ a) (g_ea : n0 ≤ ea) (hn0 : ¬ n < 0) (hn3 : n.toNatClampNeg ≤ 3) (hle : (if n < (10 : Int32) then n else (10 : Int32)) = n) (hz : n.toNatClampNeg ≤ (10 : Int32).toNatClampNeg) (hus : us = (List.range n.toNatClampNeg).map fun i => vc.getD ((0 : Int32).toNatClampNeg + i) Value.null) (hI : us.length = n.toNatClampNeg ∧ ∀ u ∈ us, ∃ y, u = Value.ref y ∧ Exa Z Z.heap y "java/lang/Integer") (hnz : ¬ (n = 0)) (hgt : ¬ (((10 : Int32) - i) < n)) (hi0 : ¬ i < 0) (hin : i.toNatClampNeg + n.toNatClampNeg ≤ (10 : Int32).toNatClampNeg) :
    own_Met l (⟨"java/util/ArrayList", "addAll", "(Ljava/util/Collection;)Z"⟩ : MethodName) (Jvm.Cond.code (⟨"java/util/ArrayList", "addAll", "(Ljava/util/Collection;)Z"⟩ : MethodName) jdk_38_method_41_code 6 (some .boolean)) ws own_room_34r #[(.ref a), (.ref cl)] Z h0 (own_Q_34r Z dc kd cr cc mr a cl mc ea k vs i ec n kc vc us h0 n0) own_room_34r.cells own_room_34r.slots := by
  refine MetFree.of_bodySF (plainFor_of_name pn_34) hisR ?_
  intro p e s m args below meth c T Bd hml0 hP hK
  obtain ⟨rfl, hZ, hh⟩ := hP
  obtain ⟨hx, hB⟩ := And.intro Bd.exec Bd.bytes
  have hml : c.maxLocals = 6 := hml0
  have hown : s.vm.findClass "java/util/ArrayList" = some m.cls := findClass_of_methodNamed Bd.named
  have hnm := (name_of_methodNamed Bd.named Bd.method).1
  have X : Stand p l e own_room_34r s m #[(.ref a), (.ref cl)] below meth c T [] 0 0 := Stand.of_body Bd
  have eT : T.heap = h0 := by rw [← hh, Bd.state]; rfl
  have W := @own_Wd a0 Z hw
  have N := Fr.nil n0
  have O := hO
  have K := Keep.refl h0 [a, ea]
  refine own_enter (ef_34r m a cl) ?_
  show own_Goes _ _ _ _ (own_P s (own_Q_34r Z dc kd cr cc mr a cl mc ea k vs i ec n kc vc us h0 n0) own_room_34r.cells own_room_34r.slots)
  refine o_aloadN X hx hB d34_0 rfl rfl ?_
  refine own_kQ (own_cif X hx hZ hB (W := 0) hown (W 229 rfl) (W 230 rfl) (W 231 rfl) (W 232 rfl) (W 233 rfl) (W 234 rfl) (W 235 rfl) (W 236 rfl) (W 237 rfl) (W 2 rfl) (by decide) (rm_35 l Z a0 hw [] dc kd cr cc mr hG cl ec n kc (10 : Int32) vc us _ n0 (own_zO O) O F_elementData_cl F_size_cl V_ec hn0 hn3 hle hz hus hI) (by decide) (by decide) eT E_cl hml rfl pd_3 rfl rfl rfl d34_1 (by decide) (by decide)) fun v T L1 hQ X => ?_
  obtain ⟨b_1, k2_1, rfl, Nq1, Kq1, t1_0, t1_1⟩ := hQ
  have g_b_1 := Nat.le_trans (own_zO O) t1_1
  have sz_b_1 := Nat.le_trans K.1 t1_1
  have N := Fr.app N Nq1
  have K := K.trans Kq1 all0
  have O := O.keep Kq1 all0
  refine o_astoreN X hx hB #[.val (.ref a), .val (.ref cl), .val (.ref b_1), .unset, .unset, .unset] d34_6 rfl rfl ?_
  refine o_aloadN X hx hB d34_7 rfl rfl ?_
  refine o_dup X hx hB d34_8 rfl ?_
  have f2 := F_modCount_a.keep Kq1 nin0
  refine o_getF X hx hZ hB hown (W 42 rfl) (Via.of (W 43 rfl)) rfl f2 d34_9 fun T X eT => ?_
  refine o_iconst X hx hB d34_12 (1) ?_
  refine o_iadd X hx hB d34_13 ?_
  have f3 := E_a.keep Kq1
  refine o_putF X hx hZ hB hown (W 42 rfl) (Via.of (W 43 rfl)) eT f2 f3 (Or.inl (W 22 rfl)) (W 1 rfl) (ty := .int) (by decide) rfl rfl d34_14 fun T h4 X eT W4 => ?_
  have N := Fr.snoc X N g_a
  have K := K.wr W4 (Or.inl (List.mem_of_getElem? (i := 0) rfl))
  have O := O.wr W4 g_a
  refine o_aloadN X hx hB d34_17 rfl rfl ?_
  have z5 := own_ne2 E_a.lt t1_1
  have f6 := t1_0.other W4 (Ne.symm z5)
  refine own_step (own_lenR X hx hZ eT f6 (g := (mkF m 18 #[.val (.ref a), .val (.ref cl), .val (.ref b_1), .unset, .unset, .unset] [(.ref b_1)])) rfl rfl (hb hB d34_18)) ?_
  show own_Goes p.tables e below (T.setTop (mkF m 19 #[.val (.ref a), .val (.ref cl), .val (.ref b_1), .unset, .unset, .unset] [(.int n)])) _
  refine o_istoreN X hx hB #[.val (.ref a), .val (.ref cl), .val (.ref b_1), .val (.int n), .unset, .unset] d34_19 rfl ?_
  refine o_iloadN X hx hB d34_20 rfl ?_
  refine o_ifYes X hx hB d34_21 (Jvm.Free.XT.i0_ne_t hnz) 26 ?_
  refine o_iloadN X hx hB d34_26 rfl ?_
  refine o_aloadN X hx hB d34_27 rfl rfl ?_
  have f7 := (F_elementData_a.keep Kq1 nin0).other W4 (Or.inr (slot_ne (Or.inl (W 25 rfl)) (Or.inl (W 22 rfl)) (by decide) (t := (.array (.object "java/lang/Object"))) (t' := .int) (by decide) (by decide)))
  refine o_getF X hx hZ hB hown (W 24 rfl) Via.refl eT f7 d34_28 fun T X eT => ?_
  refine o_dup X hx hB d34_31 rfl ?_
  refine o_astore X hx hB #[.val (.ref a), .val (.ref cl), .val (.ref b_1), .val (.int n), .val (.ref ea), .unset] d34_32 rfl rfl ?_
  have f8 := (V_ea.keep Kq1 nin0).other W4 (Ne.symm ne_a_ea)
  refine own_step (own_lenR X hx hZ eT f8 (g := (mkF m 34 #[.val (.ref a), .val (.ref cl), .val (.ref b_1), .val (.int n), .val (.ref ea), .unset] [(.ref ea), (.int n)])) rfl rfl (hb hB d34_34)) ?_
  show own_Goes p.tables e below (T.setTop (mkF m 35 #[.val (.ref a), .val (.ref cl), .val (.ref b_1), .val (.int n), .val (.ref ea), .unset] [(.int (10 : Int32)), (.int n)])) _
  refine o_aloadN X hx hB d34_35 rfl rfl ?_
  have f9 := (F_size_a.keep Kq1 nin0).other W4 (Or.inr (slot_ne (Or.inl (W 45 rfl)) (Or.inl (W 22 rfl)) (by decide) (t := .int) (t' := .int) (by decide) (by decide)))
  refine o_getF X hx hZ hB hown (W 44 rfl) Via.refl eT f9 d34_36 fun T X eT => ?_
  refine o_dup X hx hB d34_39 rfl ?_
  refine o_istore X hx hB #[.val (.ref a), .val (.ref cl), .val (.ref b_1), .val (.int n), .val (.ref ea), .val (.int i)] d34_40 rfl ?_
  refine o_isub X hx hB d34_42 ?_
  refine o_icmpYes X hx hB d34_43 (Jvm.Free.XT.ii_le_t hgt) 56 ?_
  refine o_aloadN X hx hB d34_56 rfl rfl ?_
  refine o_iconst X hx hB d34_57 (0) ?_
  refine o_aload X hx hB d34_58 rfl rfl ?_
  refine o_iload X hx hB d34_60 rfl ?_
  refine o_iloadN X hx hB d34_62 rfl ?_
  obtain ⟨T, h10, L10, X, e10, N, Kq10, V10, st⟩ := own_cp X hx hZ hown (W 260 rfl) (W 259 rfl) (W 257 rfl) (W 258 rfl) eT f6 f8 (own_hI hI.2 O (W 67 rfl)) (by decide) hi0 hn0 (own_p0 (Nat.le_refl _)) hin (own_self hI.1) (n0 := n0) N g_ea (g := (mkF m 63 #[.val (.ref a), .val (.ref cl), .val (.ref b_1), .val (.int n), .val (.ref ea), .val (.int i)] [(.int n), (.int i), (.ref ea), (.int (0 : Int32)), (.ref b_1)])) rfl (by rw [hml]; rfl) rfl (hb hB d34_63) (by decide) (W := 0) (by show 2 * 0 + _ ≤ _; exact Nat.le_of_eq rfl) (by decide)
  have K := K.trans Kq10 (allS (Or.inl (List.mem_of_getElem? (i := 1) rfl)) all0)
  have O := O.keep Kq10 (allS g_ea all0)
  have V10 : own_AR Z h10 ea k (10 : Int32) (vs.take i.toNatClampNeg ++ us ++ vs.drop (i.toNatClampNeg + n.toNatClampNeg)) := V10
  refine own_step (st) ?_
  show own_Goes p.tables e below (T.setTop (mkF m 66 #[.val (.ref a), .val (.ref cl), .val (.ref b_1), .val (.int n), .val (.ref ea), .val (.int i)] [])) _
  refine o_aloadN X hx hB d34_66 rfl rfl ?_
  refine o_iload X hx hB d34_67 rfl ?_
  refine o_iloadN X hx hB d34_69 rfl ?_
  refine o_iadd X hx hB d34_70 ?_
  have f11 := (f3.wr W4).keep Kq10
  have f12 := f9.keep Kq10 (ninS ne_a_ea nin0)
  refine o_putF X hx hZ hB hown (W 44 rfl) Via.refl e10 f12 f11 (Or.inl (W 45 rfl)) (W 1 rfl) (ty := .int) (by decide) rfl rfl d34_71 fun T h13 X eT W13 => ?_
  have N := Fr.snoc X N g_a
  have K := K.wr W13 (Or.inl (List.mem_of_getElem? (i := 0) rfl))
  have O := O.wr W13 g_a
  refine o_iconst X hx hB d34_74 (1) ?_
  have f14 := f11.wr W13
  have f15 := ((f2.same W4).keep Kq10 (ninS ne_a_ea nin0)).other W13 (Or.inr (slot_ne (Or.inl (W 22 rfl)) (Or.inl (W 45 rfl)) (by decide) (t := .int) (t' := .int) (by decide) (by decide)))
  have f16 := (f7.keep Kq10 (ninS ne_a_ea nin0)).other W13 (Or.inr (slot_ne (Or.inl (W 25 rfl)) (Or.inl (W 45 rfl)) (by decide) (t := (.array (.object "java/lang/Object"))) (t' := .int) (by decide) (by decide)))
  have f17 := f12.same W13
  have f18 := V10.other W13 (Ne.symm ne_a_ea)
  exact own_retN X hx (t := .boolean) Bd.returns (by simp) (hb hB d34_75) (BodyLoose.notSynchronized Bd) (w := (1 : Int32)) rfl (by rw [eT]; exact ⟨rfl, N, K, f14, f15, f16, f17, f18, ne_a_ea⟩) (by decide) (by decide)
theorem d42_0 : decode jdk_38_method_18_code 0 = .ok (.aload_n 0, 1) := by decide +kernel
theorem d42_1 : decode jdk_38_method_18_code 1 = .ok (.getfield 9, 3) := by decide +kernel
theorem d42_4 : decode jdk_38_method_18_code 4 = .ok (.iload_n 1, 1) := by decide +kernel
theorem d42_5 : decode jdk_38_method_18_code 5 = .ok (.aaload, 1) := by decide +kernel
theorem d42_6 : decode jdk_38_method_18_code 6 = .ok (.areturn, 1) := by decide +kernel
theorem pn_42 : plainName "java/util/ArrayList" = true := by first | (simp [plainName, overriddenIn]; done) | decide +kernel
theorem ef_42 (m : MethodId) (a : Addr) (i : Int32) : entryFrame m #[(.ref a), (.int i)] 2 = mkF m 0 #[.val (.ref a), .val (.int i)] [] := by first | (simp [entryFrame, mkF, argsToLocals, Value.category]; done) | rfl
abbrev own_room_42 : Room := { frames := 0, cells := 0, slots := 0, locals := 0 }
set_option maxRecDepth 65536 in
set_option maxHeartbeats 40000000 in
theorem rm_42 (l : Launch) (Z : State) (a0 : Array Value) (hw : own_Hw a0 Z) (ws : List Jvm.Cond) (dc : Addr) (kd : ClassId) (cr : Addr) (cc : Cell) (mr : Addr) (hG : own_G Z dc kd cr cc mr) (a : Addr) (i : Int32) (ea : Addr) (k : ClassId) (vs : List Value) (r : Addr) (h0 : Heap) (n0 : Nat) (Z0 : n0 ≤ h0.size) (hO : Old Z n0 h0) (F_elementData_a : Fld Z h0 a "java/util/ArrayList" "elementData" "[Ljava/lang/Object;" (.ref ea)) (V_ea : own_AR Z h0 ea k (10 : Int32) vs) (hi : ¬ i < 0 ∧ i < (10 : Int32)) (hv : vs.getD i.toNatClampNeg .null = .ref r) :
    own_Met l (⟨"java/util/ArrayList", "elementData", "(I)Ljava/lang/Object;"⟩ : MethodName) (Jvm.Cond.code (⟨"java/util/ArrayList", "elementData", "(I)Ljava/lang/Object;"⟩ : MethodName) jdk_38_method_18_code 2 (some (.object "java/lang/Object"))) ws own_room_42 #[(.ref a), (.int i)] Z h0 (own_Qp (some (.ref r)) h0) own_room_42.cells own_room_42.slots := by
  refine MetFree.of_bodySF (plainFor_of_name pn_42) hisR ?_
  intro p e s m args below meth c T Bd hml0 hP hK
  obtain ⟨rfl, hZ, hh⟩ := hP
  obtain ⟨hx, hB⟩ := And.intro Bd.exec Bd.bytes
  have hml : c.maxLocals = 2 := hml0
  have hown : s.vm.findClass "java/util/ArrayList" = some m.cls := findClass_of_methodNamed Bd.named
  have hnm := (name_of_methodNamed Bd.named Bd.method).1
  have X : Stand p l e own_room_42 s m #[(.ref a), (.int i)] below meth c T [] 0 0 := Stand.of_body Bd
  have eT : T.heap = h0 := by rw [← hh, Bd.state]; rfl
  have W := @own_Wd a0 Z hw
  have N := Fr.nil n0
  have O := hO
  refine own_enter (ef_42 m a i) ?_
  show own_Goes _ _ _ _ (own_P s (own_Qp (some (.ref r)) h0) own_room_42.cells own_room_42.slots)
  refine o_aloadN X hx hB d42_0 rfl rfl ?_
  refine o_getF X hx hZ hB hown (W 24 rfl) Via.refl eT F_elementData_a d42_1 fun T X eT => ?_
  refine o_iloadN X hx hB d42_4 rfl ?_
  refine own_step (own_ldR X hx hZ eT V_ea (j := i) hi hv (g := (mkF m 5 #[.val (.ref a), .val (.int i)] [(.int i), (.ref ea)])) rfl rfl (hb hB d42_5)) ?_
  show own_Goes p.tables e below (T.setTop (mkF m 6 #[.val (.ref a), .val (.int i)] [(.ref r)])) _
  exact own_retA X hx Bd.returns (hb hB d42_6) (BodyLoose.notSynchronized Bd) rfl rfl ⟨rfl, rfl, eT⟩ (by decide) (by decide)
theorem d41_0 : decode jdk_41_method_11_code 0 = .ok (.iload_n 0, 1) := by decide +kernel
theorem d41_1 : decode jdk_41_method_11_code 1 = .ok (.ifCond .lt 8, 3) := by decide +kernel
theorem d41_4 : decode jdk_41_method_11_code 4 = .ok (.iload_n 0, 1) := by decide +kernel
theorem d41_5 : decode jdk_41_method_11_code 5 = .ok (.iload_n 1, 1) := by decide +kernel
theorem d41_6 : decode jdk_41_method_11_code 6 = .ok (.if_icmp .lt 10, 3) := by decide +kernel
theorem d41_16 : decode jdk_41_method_11_code 16 = .ok (.iload_n 0, 1) := by decide +kernel
theorem d41_17 : decode jdk_41_method_11_code 17 = .ok (.ireturn, 1) := by decide +kernel
theorem pn_41 : plainName "jdk/internal/util/Preconditions" = true := by first | (simp [plainName, overriddenIn]; done) | decide +kernel
theorem ef_41 (m : MethodId) (i : Int32) (z : Int32) : entryFrame m #[(.int i), (.int z), .null] 3 = mkF m 0 #[.val (.int i), .val (.int z), .val .null] [] := by first | (simp [entryFrame, mkF, argsToLocals, Value.category]; done) | rfl
abbrev own_room_41 : Room := { frames := 0, cells := 0, slots := 0, locals := 0 }
set_option maxRecDepth 65536 in
set_option maxHeartbeats 40000000 in
theorem rm_41 (l : Launch) (Z : State) (a0 : Array Value) (hw : own_Hw a0 Z) (ws : List Jvm.Cond) (dc : Addr) (kd : ClassId) (cr : Addr) (cc : Cell) (mr : Addr) (hG : own_G Z dc kd cr cc mr) (i z : Int32) (h0 : Heap) (n0 : Nat) (Z0 : n0 ≤ h0.size) (hO : Old Z n0 h0) (h0i : ¬ (i < 0)) (hiz : i < z) :
    own_Met l (⟨"jdk/internal/util/Preconditions", "checkIndex", "(IILjava/util/function/BiFunction;)I"⟩ : MethodName) (Jvm.Cond.code (⟨"jdk/internal/util/Preconditions", "checkIndex", "(IILjava/util/function/BiFunction;)I"⟩ : MethodName) jdk_41_method_11_code 3 (some .int)) ws own_room_41 #[(.int i), (.int z), .null] Z h0 (own_Qp (some (.int i)) h0) own_room_41.cells own_room_41.slots := by
  refine MetFree.of_bodySF (plainFor_of_name pn_41) hisR ?_
  intro p e s m args below meth c T Bd hml0 hP hK
  obtain ⟨rfl, hZ, hh⟩ := hP
  obtain ⟨hx, hB⟩ := And.intro Bd.exec Bd.bytes
  have hml : c.maxLocals = 3 := hml0
  have hown : s.vm.findClass "jdk/internal/util/Preconditions" = some m.cls := findClass_of_methodNamed Bd.named
  have hnm := (name_of_methodNamed Bd.named Bd.method).1
  have X : Stand p l e own_room_41 s m #[(.int i), (.int z), .null] below meth c T [] 0 0 := Stand.of_body Bd
  have eT : T.heap = h0 := by rw [← hh, Bd.state]; rfl
  have W := @own_Wd a0 Z hw
  have N := Fr.nil n0
  have O := hO
  refine own_enter (ef_41 m i z) ?_
  show own_Goes _ _ _ _ (own_P s (own_Qp (some (.int i)) h0) own_room_41.cells own_room_41.slots)
  refine o_iloadN X hx hB d41_0 rfl ?_
  refine o_ifNo X hx hB d41_1 (Jvm.Free.XT.i0_lt_f h0i) ?_
  refine o_iloadN X hx hB d41_4 rfl ?_
  refine o_iloadN X hx hB d41_5 rfl ?_
  refine o_icmpYes X hx hB d41_6 (Jvm.Free.XT.ii_lt_t hiz) 16 ?_
  refine o_iloadN X hx hB d41_16 rfl ?_
  exact own_retI X hx Bd.returns (hb hB d41_17) (BodyLoose.notSynchronized Bd) ⟨rfl, rfl, eT⟩ (by decide) (by decide)
theorem d40_0 : decode jdk_31_method_17_code 0 = .ok (.iload_n 0, 1) := by decide +kernel
theorem d40_1 : decode jdk_31_method_17_code 1 = .ok (.iload_n 1, 1) := by decide +kernel
theorem d40_2 : decode jdk_31_method_17_code 2 = .ok (.aconst_null, 1) := by decide +kernel
theorem d40_3 : decode jdk_31_method_17_code 3 = .ok (.invokestatic 105, 3) := by decide +kernel
theorem d40_6 : decode jdk_31_method_17_code 6 = .ok (.ireturn, 1) := by decide +kernel
theorem pd_14 : parseMethodDescriptor "(IILjava/util/function/BiFunction;)I" = some ⟨[.int, .int, (.object "java/util/function/BiFunction")], some .int⟩ := by decide +kernel
theorem pn_40 : plainName "java/util/Objects" = true := by first | (simp [plainName, overriddenIn]; done) | decide +kernel
theorem ef_40 (m : MethodId) (i : Int32) (z : Int32) : entryFrame m #[(.int i), (.int z)] 2 = mkF m 0 #[.val (.int i), .val (.int z)] [] := by first | (simp [entryFrame, mkF, argsToLocals, Value.category]; done) | rfl
abbrev own_room_40 : Room := { frames := 1, cells := 0, slots := 0, locals := 14 }
set_option maxRecDepth 65536 in
set_option maxHeartbeats 40000000 in
theorem rm_40 (l : Launch) (Z : State) (a0 : Array Value) (hw : own_Hw a0 Z) (ws : List Jvm.Cond) (dc : Addr) (kd : ClassId) (cr : Addr) (cc : Cell) (mr : Addr) (hG : own_G Z dc kd cr cc mr) (i z : Int32) (h0 : Heap) (n0 : Nat) (Z0 : n0 ≤ h0.size) (hO : Old Z n0 h0) (h0i : ¬ (i < 0)) (hiz : i < z) :
    own_Met l (⟨"java/util/Objects", "checkIndex", "(II)I"⟩ : MethodName) (Jvm.Cond.code (⟨"java/util/Objects", "checkIndex", "(II)I"⟩ : MethodName) jdk_31_method_17_code 2 (some .int)) ws own_room_40 #[(.int i), (.int z)] Z h0 (own_Qp (some (.int i)) h0) own_room_40.cells own_room_40.slots := by
  refine MetFree.of_bodySF (plainFor_of_name pn_40) hisR ?_
  intro p e s m args below meth c T Bd hml0 hP hK
  obtain ⟨rfl, hZ, hh⟩ := hP
  obtain ⟨hx, hB⟩ := And.intro Bd.exec Bd.bytes
  have hml : c.maxLocals = 2 := hml0
  have hown : s.vm.findClass "java/util/Objects" = some m.cls := findClass_of_methodNamed Bd.named
  have hnm := (name_of_methodNamed Bd.named Bd.method).1
  have X : Stand p l e own_room_40 s m #[(.int i), (.int z)] below meth c T [] 0 0 := Stand.of_body Bd
  have eT : T.heap = h0 := by rw [← hh, Bd.state]; rfl
  have W := @own_Wd a0 Z hw
  have N := Fr.nil n0
  have O := hO
  refine own_enter (ef_40 m i z) ?_
  show own_Goes _ _ _ _ (own_P s (own_Qp (some (.int i)) h0) own_room_40.cells own_room_40.slots)
  refine o_iloadN X hx hB d40_0 rfl ?_
  refine o_iloadN X hx hB d40_1 rfl ?_
  refine own_step (fun _ => XS.aconstNull X.here hx rfl (hb hB d40_2)) ?_
  show own_Goes p.tables e below (T.setTop (mkF m 3 #[.val (.int i), .val (.int z)] [.null, (.int z), (.int i)])) _
  refine own_kP (own_cst X hx hZ hB (W := 0) hown (W 273 rfl) (W 274 rfl) (W 276 rfl) (W 275 rfl) (by decide) (rm_41 l Z a0 hw [] dc kd cr cc mr hG i z _ n0 (own_zO O) O h0i hiz) (by decide) (by decide) eT hml rfl pd_14 rfl rfl rfl d40_3 (by decide) (by decide)) rfl rfl fun T X eT => ?_
  exact own_retI X hx Bd.returns (hb hB d40_6) (BodyLoose.notSynchronized Bd) ⟨rfl, rfl, eT⟩ (by decide) (by decide)
theorem d39_0 : decode jdk_38_method_20_code 0 = .ok (.iload_n 1, 1) := by decide +kernel
theorem d39_1 : decode jdk_38_method_20_code 1 = .ok (.aload_n 0, 1) := by decide +kernel
theorem d39_2 : decode jdk_38_method_20_code 2 = .ok (.getfield 48, 3) := by decide +kernel
theorem d39_5 : decode jdk_38_method_20_code 5 = .ok (.invokestatic 118, 3) := by decide +kernel
theorem d39_8 : decode jdk_38_method_20_code 8 = .ok (.pop, 1) := by decide +kernel
theorem d39_9 : decode jdk_38_method_20_code 9 = .ok (.aload_n 0, 1) := by decide +kernel
theorem d39_10 : decode jdk_38_method_20_code 10 = .ok (.iload_n 1, 1) := by decide +kernel
theorem d39_11 : decode jdk_38_method_20_code 11 = .ok (.invokevirtual 123, 3) := by decide +kernel
theorem d39_14 : decode jdk_38_method_20_code 14 = .ok (.areturn, 1) := by decide +kernel
theorem pd_15 : parseMethodDescriptor "(I)Ljava/lang/Object;" = some ⟨[.int], some (.object "java/lang/Object")⟩ := by decide +kernel
theorem pn_39 : plainName "java/util/ArrayList" = true := by first | (simp [plainName, overriddenIn]; done) | decide +kernel
theorem ef_39 (m : MethodId) (a : Addr) (i : Int32) : entryFrame m #[(.ref a), (.int i)] 2 = mkF m 0 #[.val (.ref a), .val (.int i)] [] := by first | (simp [entryFrame, mkF, argsToLocals, Value.category]; done) | rfl
abbrev own_room_39 : Room := { frames := 2, cells := 0, slots := 0, locals := 27 }
set_option maxRecDepth 65536 in
set_option maxHeartbeats 40000000 in
theorem rm_39 (l : Launch) (Z : State) (a0 : Array Value) (hw : own_Hw a0 Z) (ws : List Jvm.Cond) (dc : Addr) (kd : ClassId) (cr : Addr) (cc : Cell) (mr : Addr) (hG : own_G Z dc kd cr cc mr) (a : Addr) (i : Int32) (ea : Addr) (k : ClassId) (vs : List Value) (z : Int32) (r : Addr) (h0 : Heap) (n0 : Nat) (Z0 : n0 ≤ h0.size) (hO : Old Z n0 h0) (E_a : Exa Z h0 a "java/util/ArrayList") (F_elementData_a : Fld Z h0 a "java/util/ArrayList" "elementData" "[Ljava/lang/Object;" (.ref ea)) (F_size_a : Fld Z h0 a "java/util/ArrayList" "size" "I" (.int z)) (V_ea : own_AR Z h0 ea k (10 : Int32) vs) (hi : ¬ i < 0 ∧ i < (10 : Int32)) (hiz : i < z) (hv : vs.getD i.toNatClampNeg .null = .ref r) :
    own_Met l (⟨"java/util/ArrayList", "get", "(I)Ljava/lang/Object;"⟩ : MethodName) (Jvm.Cond.code (⟨"java/util/ArrayList", "get", "(I)Ljava/lang/Object;"⟩ : MethodName) jdk_38_method_20_code 2 (some (.object "java/lang/Object"))) ws own_room_39 #[(.ref a), (.int i)] Z h0 (own_Qp (some (.ref r)) h0) own_room_39.cells own_room_39.slots := by
  refine MetFree.of_bodySF (plainFor_of_name pn_39) hisR ?_
  intro p e s m args below meth c T Bd hml0 hP hK
  obtain ⟨rfl, hZ, hh⟩ := hP
  obtain ⟨hx, hB⟩ := And.intro Bd.exec Bd.bytes
  have hml : c.maxLocals = 2 := hml0
  have hown : s.vm.findClass "java/util/ArrayList" = some m.cls := findClass_of_methodNamed Bd.named
  have hnm := (name_of_methodNamed Bd.named Bd.method).1
  have X : Stand p l e own_room_39 s m #[(.ref a), (.int i)] below meth c T [] 0 0 := Stand.of_body Bd
  have eT : T.heap = h0 := by rw [← hh, Bd.state]; rfl
  have W := @own_Wd a0 Z hw
  have N := Fr.nil n0
  have O := hO
  refine own_enter (ef_39 m a i) ?_
  show own_Goes _ _ _ _ (own_P s (own_Qp (some (.ref r)) h0) own_room_39.cells own_room_39.slots)
  refine o_iloadN X hx hB d39_0 rfl ?_
  refine o_aloadN X hx hB d39_1 rfl rfl ?_
  refine o_getF X hx hZ hB hown (W 44 rfl) Via.refl eT F_size_a d39_2 fun T X eT => ?_
  refine own_kP (own_cst X hx hZ hB (W := 0) hown (W 269 rfl) (W 270 rfl) (W 272 rfl) (W 271 rfl) (by decide) (rm_40 l Z a0 hw [] dc kd cr cc mr hG i z _ n0 (own_zO O) O hi.1 hiz) (by decide) (by decide) eT hml rfl pd_1 rfl rfl rfl d39_5 (by decide) (by decide)) rfl rfl fun T X eT => ?_
  refine o_pop X hx hB d39_8 rfl ?_
  refine o_aloadN X hx hB d39_9 rfl rfl ?_
  refine o_iloadN X hx hB d39_10 rfl ?_
  refine own_kP (own_cvi X hx hZ hB (W := 0) hown (W 277 rfl) (W 278 rfl) (W 280 rfl) (W 279 rfl) (W 281 rfl) (W 2 rfl) (by decide) (rm_42 l Z a0 hw [] dc kd cr cc mr hG a i ea k vs r _ n0 (own_zO O) O F_elementData_a V_ea hi hv) (by decide) (by decide) eT E_a hml rfl pd_15 rfl rfl rfl d39_11 (by decide) (by decide)) rfl rfl fun T X eT => ?_
  exact own_retA X hx Bd.returns (hb hB d39_14) (BodyLoose.notSynchronized Bd) rfl rfl ⟨rfl, rfl, eT⟩ (by decide) (by decide)
theorem d28_0 : decode method_3_code 0 = .ok (.aload_n 1, 1) := by decide +kernel
theorem d28_1 : decode method_3_code 1 = .ok (.invokeinterface 46 1, 5) := by decide +kernel
theorem d28_6 : decode method_3_code 6 = .ok (.istore_n 2, 1) := by decide +kernel
theorem d28_7 : decode method_3_code 7 = .ok (.aload_n 0, 1) := by decide +kernel
theorem d28_8 : decode method_3_code 8 = .ok (.invokeinterface 46 1, 5) := by decide +kernel
theorem d28_13 : decode method_3_code 13 = .ok (.iload_n 2, 1) := by decide +kernel
theorem d28_14 : decode method_3_code 14 = .ok (.if_icmp .ne 8, 3) := by decide +kernel
theorem d28_17 : decode method_3_code 17 = .ok (.iload_n 2, 1) := by decide +kernel
theorem d28_18 : decode method_3_code 18 = .ok (.iconst 3, 1) := by decide +kernel
theorem d28_19 : decode method_3_code 19 = .ok (.if_icmp .le 5, 3) := by decide +kernel
theorem d28_24 : decode method_3_code 24 = .ok (.iload_n 2, 1) := by decide +kernel
theorem d28_25 : decode method_3_code 25 = .ok (.ifCond .le 34, 3) := by decide +kernel
theorem d28_59 : decode method_3_code 59 = .ok (.iload_n 2, 1) := by decide +kernel
theorem d28_60 : decode method_3_code 60 = .ok (.iconst 1, 1) := by decide +kernel
theorem d28_61 : decode method_3_code 61 = .ok (.if_icmp .le 34, 3) := by decide +kernel
theorem d28_95 : decode method_3_code 95 = .ok (.iload_n 2, 1) := by decide +kernel
theorem d28_96 : decode method_3_code 96 = .ok (.iconst 2, 1) := by decide +kernel
theorem d28_97 : decode method_3_code 97 = .ok (.if_icmp .le 34, 3) := by decide +kernel
theorem d28_131 : decode method_3_code 131 = .ok (.iconst 1, 1) := by decide +kernel
theorem d28_132 : decode method_3_code 132 = .ok (.ireturn, 1) := by decide +kernel
theorem pn_28 : plainName "com/example/sandpiper/sandpiper/broker/AwaitingSyncAddPinLaw" = true := by first | (simp [plainName, overriddenIn]; done) | decide +kernel
theorem ef_28_0 (m : MethodId) (g : Addr) (w : Addr) : entryFrame m #[(.ref g), (.ref w)] 3 = mkF m 0 #[.val (.ref g), .val (.ref w), .unset] [] := by first | (simp [entryFrame, mkF, argsToLocals, Value.category]; done) | rfl
abbrev own_room_28_0 : Room := { frames := 1, cells := 0, slots := 0, locals := 12 }
set_option maxRecDepth 65536 in
set_option maxHeartbeats 40000000 in
theorem rm_28_0 (l : Launch) (Z : State) (a0 : Array Value) (hw : own_Hw a0 Z) (ws : List Jvm.Cond) (dc : Addr) (kd : ClassId) (cr : Addr) (cc : Cell) (mr : Addr) (hG : own_G Z dc kd cr cc mr) (g w eg : Addr) (kg : ClassId) (vg : List Value) (ew : Addr) (kw : ClassId) (vw : List Value) (h0 : Heap) (n0 : Nat) (Z0 : n0 ≤ h0.size) (hO : Old Z n0 h0) (E_g : Exa Z h0 g "java/util/ArrayList") (F_elementData_g : Fld Z h0 g "java/util/ArrayList" "elementData" "[Ljava/lang/Object;" (.ref eg)) (F_size_g : Fld Z h0 g "java/util/ArrayList" "size" "I" (.int (0 : Int32))) (E_w : Exa Z h0 w "java/util/ArrayList") (F_elementData_w : Fld Z h0 w "java/util/ArrayList" "elementData" "[Ljava/lang/Object;" (.ref ew)) (F_size_w : Fld Z h0 w "java/util/ArrayList" "size" "I" (.int (0 : Int32))) :
    own_Met l (⟨"com/example/sandpiper/sandpiper/broker/AwaitingSyncAddPinLaw", "same", "(Ljava/util/List;Ljava/util/List;)Z"⟩ : MethodName) (Jvm.Cond.code (⟨"com/example/sandpiper/sandpiper/broker/AwaitingSyncAddPinLaw", "same", "(Ljava/util/List;Ljava/util/List;)Z"⟩ : MethodName) method_3_code 3 (some .boolean)) ws own_room_28_0 #[(.ref g), (.ref w)] Z h0 (own_Qp (some (.int (1 : Int32))) h0) own_room_28_0.cells own_room_28_0.slots := by
  refine MetFree.of_bodySF (plainFor_of_name pn_28) hisR ?_
  intro p e s m args below meth c T Bd hml0 hP hK
  obtain ⟨rfl, hZ, hh⟩ := hP
  obtain ⟨hx, hB⟩ := And.intro Bd.exec Bd.bytes
  have hml : c.maxLocals = 3 := hml0
  have hown : s.vm.findClass "com/example/sandpiper/sandpiper/broker/AwaitingSyncAddPinLaw" = some m.cls := findClass_of_methodNamed Bd.named
  have hnm := (name_of_methodNamed Bd.named Bd.method).1
  have X : Stand p l e own_room_28_0 s m #[(.ref g), (.ref w)] below meth c T [] 0 0 := Stand.of_body Bd
  have eT : T.heap = h0 := by rw [← hh, Bd.state]; rfl
  have W := @own_Wd a0 Z hw
  have N := Fr.nil n0
  have O := hO
  refine own_enter (ef_28_0 m g w) ?_
  show own_Goes _ _ _ _ (own_P s (own_Qp (some (.int (1 : Int32))) h0) own_room_28_0.cells own_room_28_0.slots)
  refine o_aloadN X hx hB d28_0 rfl rfl ?_
  refine own_kP (own_cif X hx hZ hB (W := 0) hown (W 188 rfl) (W 189 rfl) (W 190 rfl) (W 191 rfl) (W 192 rfl) (W 193 rfl) (W 194 rfl) (W 40 rfl) (W 195 rfl) (W 2 rfl) (by decide) (rm_29 l Z a0 hw [] dc kd cr cc mr hG w (0 : Int32) _ n0 (own_zO O) O F_size_w) (by decide) (by decide) eT E_w hml rfl pd_9 rfl rfl rfl d28_1 (by decide) (by decide)) rfl rfl fun T X eT => ?_
  refine o_istoreN X hx hB #[.val (.ref g), .val (.ref w), .val (.int (0 : Int32))] d28_6 rfl ?_
  refine o_aloadN X hx hB d28_7 rfl rfl ?_
  refine own_kP (own_cif X hx hZ hB (W := 0) hown (W 188 rfl) (W 189 rfl) (W 190 rfl) (W 191 rfl) (W 192 rfl) (W 193 rfl) (W 194 rfl) (W 40 rfl) (W 195 rfl) (W 2 rfl) (by decide) (rm_29 l Z a0 hw [] dc kd cr cc mr hG g (0 : Int32) _ n0 (own_zO O) O F_size_g) (by decide) (by decide) eT E_g hml rfl pd_9 rfl rfl rfl d28_8 (by decide) (by decide)) rfl rfl fun T X eT => ?_
  refine o_iloadN X hx hB d28_13 rfl ?_
  refine o_icmpNo X hx hB d28_14 (Jvm.Free.XT.ii_ne_f rfl) ?_
  refine o_iloadN X hx hB d28_17 rfl ?_
  refine o_iconst X hx hB d28_18 (3) ?_
  refine o_icmpYes X hx hB d28_19 (Jvm.Free.XT.ii_le_t (by decide : ¬ ((3 : Int32) < (0 : Int32)))) 24 ?_
  refine o_iloadN X hx hB d28_24 rfl ?_
  refine o_ifYes X hx hB d28_25 (Jvm.Free.XT.i0_le_t (by decide : ¬ (0 < (0 : Int32)))) 59 ?_
  refine o_iloadN X hx hB d28_59 rfl ?_
  refine o_iconst X hx hB d28_60 (1) ?_
  refine o_icmpYes X hx hB d28_61 (Jvm.Free.XT.ii_le_t (by decide : ¬ ((1 : Int32) < (0 : Int32)))) 95 ?_
  refine o_iloadN X hx hB d28_95 rfl ?_
  refine o_iconst X hx hB d28_96 (2) ?_
  refine o_icmpYes X hx hB d28_97 (Jvm.Free.XT.ii_le_t (by decide : ¬ ((2 : Int32) < (0 : Int32)))) 131 ?_
  refine o_iconst X hx hB d28_131 (1) ?_
  exact own_retN X hx (t := .boolean) Bd.returns (by simp) (hb hB d28_132) (BodyLoose.notSynchronized Bd) (w := (1 : Int32)) rfl ⟨rfl, rfl, eT⟩ (by decide) (by decide)
theorem d28_28 : decode method_3_code 28 = .ok (.aload_n 0, 1) := by decide +kernel
theorem d28_29 : decode method_3_code 29 = .ok (.iconst 0, 1) := by decide +kernel
theorem d28_30 : decode method_3_code 30 = .ok (.invokeinterface 47 2, 5) := by decide +kernel
theorem d28_35 : decode method_3_code 35 = .ok (.checkcast 11, 3) := by decide +kernel
theorem d28_38 : decode method_3_code 38 = .ok (.invokevirtual 51, 3) := by decide +kernel
theorem d28_41 : decode method_3_code 41 = .ok (.aload_n 1, 1) := by decide +kernel
theorem d28_42 : decode method_3_code 42 = .ok (.iconst 0, 1) := by decide +kernel
theorem d28_43 : decode method_3_code 43 = .ok (.invokeinterface 47 2, 5) := by decide +kernel
theorem d28_48 : decode method_3_code 48 = .ok (.checkcast 11, 3) := by decide +kernel
theorem d28_51 : decode method_3_code 51 = .ok (.invokevirtual 51, 3) := by decide +kernel
theorem d28_54 : decode method_3_code 54 = .ok (.if_icmp .eq 5, 3) := by decide +kernel
theorem ef_28_1 (m : MethodId) (g : Addr) (w : Addr) : entryFrame m #[(.ref g), (.ref w)] 3 = mkF m 0 #[.val (.ref g), .val (.ref w), .unset] [] := by first | (simp [entryFrame, mkF, argsToLocals, Value.category]; done) | rfl
abbrev own_room_28_1 : Room := { frames := 3, cells := 0, slots := 0, locals := 41 }
set_option maxRecDepth 65536 in
set_option maxHeartbeats 40000000 in
theorem rm_28_1 (l : Launch) (Z : State) (a0 : Array Value) (hw : own_Hw a0 Z) (ws : List Jvm.Cond) (dc : Addr) (kd : ClassId) (cr : Addr) (cc : Cell) (mr : Addr) (hG : own_G Z dc kd cr cc mr) (g w eg : Addr) (kg : ClassId) (vg : List Value) (ew : Addr) (kw : ClassId) (vw : List Value) (r0 : Addr) (y0 : Int32) (h0 : Heap) (n0 : Nat) (Z0 : n0 ≤ h0.size) (hO : Old Z n0 h0) (E_g : Exa Z h0 g "java/util/ArrayList") (F_elementData_g : Fld Z h0 g "java/util/ArrayList" "elementData" "[Ljava/lang/Object;" (.ref eg)) (F_size_g : Fld Z h0 g "java/util/ArrayList" "size" "I" (.int (1 : Int32))) (V_eg : own_AR Z h0 eg kg (10 : Int32) vg) (E_w : Exa Z h0 w "java/util/ArrayList") (F_elementData_w : Fld Z h0 w "java/util/ArrayList" "elementData" "[Ljava/lang/Object;" (.ref ew)) (F_size_w : Fld Z h0 w "java/util/ArrayList" "size" "I" (.int (1 : Int32))) (V_ew : own_AR Z h0 ew kw (10 : Int32) vw) (E_r0 : Exa Z h0 r0 "java/lang/Integer") (F_value_r0 : Fld Z h0 r0 "java/lang/Integer" "value" "I" (.int y0)) (hg0 : vg.getD (0 : Int32).toNatClampNeg .null = .ref r0) (hw0 : vw.getD (0 : Int32).toNatClampNeg .null = .ref r0) :
    own_Met l (⟨"com/example/sandpiper/sandpiper/broker/AwaitingSyncAddPinLaw", "same", "(Ljava/util/List;Ljava/util/List;)Z"⟩ : MethodName) (Jvm.Cond.code (⟨"com/example/sandpiper/sandpiper/broker/AwaitingSyncAddPinLaw", "same", "(Ljava/util/List;Ljava/util/List;)Z"⟩ : MethodName) method_3_code 3 (some .boolean)) ws own_room_28_1 #[(.ref g), (.ref w)] Z h0 (own_Qp (some (.int (1 : Int32))) h0) own_room_28_1.cells own_room_28_1.slots := by
  refine MetFree.of_bodySF (plainFor_of_name pn_28) hisR ?_
  intro p e s m args below meth c T Bd hml0 hP hK
  obtain ⟨rfl, hZ, hh⟩ := hP
  obtain ⟨hx, hB⟩ := And.intro Bd.exec Bd.bytes
  have hml : c.maxLocals = 3 := hml0
  have hown : s.vm.findClass "com/example/sandpiper/sandpiper/broker/AwaitingSyncAddPinLaw" = some m.cls := findClass_of_methodNamed Bd.named
  have hnm := (name_of_methodNamed Bd.named Bd.method).1
  have X : Stand p l e own_room_28_1 s m #[(.ref g), (.ref w)] below meth c T [] 0 0 := Stand.of_body Bd
  have eT : T.heap = h0 := by rw [← hh, Bd.state]; rfl
  have W := @own_Wd a0 Z hw
  have N := Fr.nil n0
  have O := hO
  refine own_enter (ef_28_1 m g w) ?_
  show own_Goes _ _ _ _ (own_P s (own_Qp (some (.int (1 : Int32))) h0) own_room_28_1.cells own_room_28_1.slots)
  refine o_aloadN X hx hB d28_0 rfl rfl ?_
  refine own_kP (own_cif X hx hZ hB (W := 0) hown (W 188 rfl) (W 189 rfl) (W 190 rfl) (W 191 rfl) (W 192 rfl) (W 193 rfl) (W 194 rfl) (W 40 rfl) (W 195 rfl) (W 2 rfl) (by decide) (rm_29 l Z a0 hw [] dc kd cr cc mr hG w (1 : Int32) _ n0 (own_zO O) O F_size_w) (by decide) (by decide) eT E_w hml rfl pd_9 rfl rfl rfl d28_1 (by decide) (by decide)) rfl rfl fun T X eT => ?_
  refine o_istoreN X hx hB #[.val (.ref g), .val (.ref w), .val (.int (1 : Int32))] d28_6 rfl ?_
  refine o_aloadN X hx hB d28_7 rfl rfl ?_
  refine own_kP (own_cif X hx hZ hB (W := 0) hown (W 188 rfl) (W 189 rfl) (W 190 rfl) (W 191 rfl) (W 192 rfl) (W 193 rfl) (W 194 rfl) (W 40 rfl) (W 195 rfl) (W 2 rfl) (by decide) (rm_29 l Z a0 hw [] dc kd cr cc mr hG g (1 : Int32) _ n0 (own_zO O) O F_size_g) (by decide) (by decide) eT E_g hml rfl pd_9 rfl rfl rfl d28_8 (by decide) (by decide)) rfl rfl fun T X eT => ?_
  refine o_iloadN X hx hB d28_13 rfl ?_
  refine o_icmpNo X hx hB d28_14 (Jvm.Free.XT.ii_ne_f rfl) ?_
  refine o_iloadN X hx hB d28_17 rfl ?_
  refine o_iconst X hx hB d28_18 (3) ?_
  refine o_icmpYes X hx hB d28_19 (Jvm.Free.XT.ii_le_t (by decide : ¬ ((3 : Int32) < (1 : Int32)))) 24 ?_
  refine o_iloadN X hx hB d28_24 rfl ?_
  refine o_ifNo X hx hB d28_25 (Jvm.Free.XT.i0_le_f (by decide : 0 < (1 : Int32))) ?_
  refine o_aloadN X hx hB d28_28 rfl rfl ?_
  refine o_iconst X hx hB d28_29 (0) ?_
  refine own_kP (own_cif X hx hZ hB (W := 0) hown (W 261 rfl) (W 262 rfl) (W 263 rfl) (W 264 rfl) (W 265 rfl) (W 266 rfl) (W 267 rfl) (W 40 rfl) (W 268 rfl) (W 2 rfl) (by decide) (rm_39 l Z a0 hw [] dc kd cr cc mr hG g (0 : Int32) eg kg vg (1 : Int32) r0 _ n0 (own_zO O) O E_g F_elementData_g F_size_g V_eg ⟨by decide, by decide⟩ (by decide) hg0) (by decide) (by decide) eT E_g hml rfl pd_15 rfl rfl rfl d28_30 (by decide) (by decide)) rfl rfl fun T X eT => ?_
  refine o_cast X hx hZ hB hown (W 282 rfl) eT (Ins.of_exa E_r0 (W 283 rfl)) d28_35 fun T X eT => ?_
  refine own_kP (own_cvi X hx hZ hB (W := 0) hown (W 284 rfl) (W 285 rfl) (W 287 rfl) (W 286 rfl) (W 288 rfl) (W 28 rfl) (by decide) (rm_43 l Z a0 hw [] dc kd cr cc mr hG r0 y0 _ n0 (own_zO O) O F_value_r0) (by decide) (by decide) eT E_r0 hml rfl pd_9 rfl rfl rfl d28_38 (by decide) (by decide)) rfl rfl fun T X eT => ?_
  refine o_aloadN X hx hB d28_41 rfl rfl ?_
  refine o_iconst X hx hB d28_42 (0) ?_
  refine own_kP (own_cif X hx hZ hB (W := 1) hown (W 261 rfl) (W 262 rfl) (W 263 rfl) (W 264 rfl) (W 265 rfl) (W 266 rfl) (W 267 rfl) (W 40 rfl) (W 268 rfl) (W 2 rfl) (by decide) (rm_39 l Z a0 hw [] dc kd cr cc mr hG w (0 : Int32) ew kw vw (1 : Int32) r0 _ n0 (own_zO O) O E_w F_elementData_w F_size_w V_ew ⟨by decide, by decide⟩ (by decide) hw0) (by decide) (by decide) eT E_w hml rfl pd_15 rfl rfl rfl d28_43 (by decide) (by decide)) rfl rfl fun T X eT => ?_
  refine o_cast X hx hZ hB hown (W 282 rfl) eT (Ins.of_exa E_r0 (W 283 rfl)) d28_48 fun T X eT => ?_
  refine own_kP (own_cvi X hx hZ hB (W := 1) hown (W 284 rfl) (W 285 rfl) (W 287 rfl) (W 286 rfl) (W 288 rfl) (W 28 rfl) (by decide) (rm_43 l Z a0 hw [] dc kd cr cc mr hG r0 y0 _ n0 (own_zO O) O F_value_r0) (by decide) (by decide) eT E_r0 hml rfl pd_9 rfl rfl rfl d28_51 (by decide) (by decide)) rfl rfl fun T X eT => ?_
  refine o_icmpYes X hx hB d28_54 (Jvm.Free.XT.ii_eq_t rfl) 59 ?_
  refine o_iloadN X hx hB d28_59 rfl ?_
  refine o_iconst X hx hB d28_60 (1) ?_
  refine o_icmpYes X hx hB d28_61 (Jvm.Free.XT.ii_le_t (by decide : ¬ ((1 : Int32) < (1 : Int32)))) 95 ?_
  refine o_iloadN X hx hB d28_95 rfl ?_
  refine o_iconst X hx hB d28_96 (2) ?_
  refine o_icmpYes X hx hB d28_97 (Jvm.Free.XT.ii_le_t (by decide : ¬ ((2 : Int32) < (1 : Int32)))) 131 ?_
  refine o_iconst X hx hB d28_131 (1) ?_
  exact own_retN X hx (t := .boolean) Bd.returns (by simp) (hb hB d28_132) (BodyLoose.notSynchronized Bd) (w := (1 : Int32)) rfl ⟨rfl, rfl, eT⟩ (by decide) (by decide)
theorem d28_64 : decode method_3_code 64 = .ok (.aload_n 0, 1) := by decide +kernel
theorem d28_65 : decode method_3_code 65 = .ok (.iconst 1, 1) := by decide +kernel
theorem d28_66 : decode method_3_code 66 = .ok (.invokeinterface 47 2, 5) := by decide +kernel
theorem d28_71 : decode method_3_code 71 = .ok (.checkcast 11, 3) := by decide +kernel
theorem d28_74 : decode method_3_code 74 = .ok (.invokevirtual 51, 3) := by decide +kernel
theorem d28_77 : decode method_3_code 77 = .ok (.aload_n 1, 1) := by decide +kernel
theorem d28_78 : decode method_3_code 78 = .ok (.iconst 1, 1) := by decide +kernel
theorem d28_79 : decode method_3_code 79 = .ok (.invokeinterface 47 2, 5) := by decide +kernel
theorem d28_84 : decode method_3_code 84 = .ok (.checkcast 11, 3) := by decide +kernel
theorem d28_87 : decode method_3_code 87 = .ok (.invokevirtual 51, 3) := by decide +kernel
theorem d28_90 : decode method_3_code 90 = .ok (.if_icmp .eq 5, 3) := by decide +kernel
theorem ef_28_2 (m : MethodId) (g : Addr) (w : Addr) : entryFrame m #[(.ref g), (.ref w)] 3 = mkF m 0 #[.val (.ref g), .val (.ref w), .unset] [] := by first | (simp [entryFrame, mkF, argsToLocals, Value.category]; done) | rfl
abbrev own_room_28_2 : Room := { frames := 3, cells := 0, slots := 0, locals := 41 }
set_option maxRecDepth 65536 in
set_option maxHeartbeats 40000000 in
theorem rm_28_2 (l : Launch) (Z : State) (a0 : Array Value) (hw : own_Hw a0 Z) (ws : List Jvm.Cond) (dc : Addr) (kd : ClassId) (cr : Addr) (cc : Cell) (mr : Addr) (hG : own_G Z dc kd cr cc mr) (g w eg : Addr) (kg : ClassId) (vg : List Value) (ew : Addr) (kw : ClassId) (vw : List Value) (r0 : Addr) (y0 : Int32) (r1 : Addr) (y1 : Int32) (h0 : Heap) (n0 : Nat) (Z0 : n0 ≤ h0.size) (hO : Old Z n0 h0) (E_g : Exa Z h0 g "java/util/ArrayList") (F_elementData_g : Fld Z h0 g "java/util/ArrayList" "elementData" "[Ljava/lang/Object;" (.ref eg)) (F_size_g : Fld Z h0 g "java/util/ArrayList" "size" "I" (.int (2 : Int32))) (V_eg : own_AR Z h0 eg kg (10 : Int32) vg) (E_w : Exa Z h0 w "java/util/ArrayList") (F_elementData_w : Fld Z h0 w "java/util/ArrayList" "elementData" "[Ljava/lang/Object;" (.ref ew)) (F_size_w : Fld Z h0 w "java/util/ArrayList" "size" "I" (.int (2 : Int32))) (V_ew : own_AR Z h0 ew kw (10 : Int32) vw) (E_r0 : Exa Z h0 r0 "java/lang/Integer") (F_value_r0 : Fld Z h0 r0 "java/lang/Integer" "value" "I" (.int y0)) (E_r1 : Exa Z h0 r1 "java/lang/Integer") (F_value_r1 : Fld Z h0 r1 "java/lang/Integer" "value" "I" (.int y1)) (hg0 : vg.getD (0 : Int32).toNatClampNeg .null = .ref r0) (hw0 : vw.getD (0 : Int32).toNatClampNeg .null = .ref r0) (hg1 : vg.getD (1 : Int32).toNatClampNeg .null = .ref r1) (hw1 : vw.getD (1 : Int32).toNatClampNeg .null = .ref r1) :
    own_Met l (⟨"com/example/sandpiper/sandpiper/broker/AwaitingSyncAddPinLaw", "same", "(Ljava/util/List;Ljava/util/List;)Z"⟩ : MethodName) (Jvm.Cond.code (⟨"com/example/sandpiper/sandpiper/broker/AwaitingSyncAddPinLaw", "same", "(Ljava/util/List;Ljava/util/List;)Z"⟩ : MethodName) method_3_code 3 (some .boolean)) ws own_room_28_2 #[(.ref g), (.ref w)] Z h0 (own_Qp (some (.int (1 : Int32))) h0) own_room_28_2.cells own_room_28_2.slots := by
  refine MetFree.of_bodySF (plainFor_of_name pn_28) hisR ?_
  intro p e s m args below meth c T Bd hml0 hP hK
  obtain ⟨rfl, hZ, hh⟩ := hP
  obtain ⟨hx, hB⟩ := And.intro Bd.exec Bd.bytes
  have hml : c.maxLocals = 3 := hml0
  have hown : s.vm.findClass "com/example/sandpiper/sandpiper/broker/AwaitingSyncAddPinLaw" = some m.cls := findClass_of_methodNamed Bd.named
  have hnm := (name_of_methodNamed Bd.named Bd.method).1
  have X : Stand p l e own_room_28_2 s m #[(.ref g), (.ref w)] below meth c T [] 0 0 := Stand.of_body Bd
  have eT : T.heap = h0 := by rw [← hh, Bd.state]; rfl
  have W := @own_Wd a0 Z hw
  have N := Fr.nil n0
  have O := hO
  refine own_enter (ef_28_2 m g w) ?_
  show own_Goes _ _ _ _ (own_P s (own_Qp (some (.int (1 : Int32))) h0) own_room_28_2.cells own_room_28_2.slots)
  refine o_aloadN X hx hB d28_0 rfl rfl ?_
  refine own_kP (own_cif X hx hZ hB (W := 0) hown (W 188 rfl) (W 189 rfl) (W 190 rfl) (W 191 rfl) (W 192 rfl) (W 193 rfl) (W 194 rfl) (W 40 rfl) (W 195 rfl) (W 2 rfl) (by decide) (rm_29 l Z a0 hw [] dc kd cr cc mr hG w (2 : Int32) _ n0 (own_zO O) O F_size_w) (by decide) (by decide) eT E_w hml rfl pd_9 rfl rfl rfl d28_1 (by decide) (by decide)) rfl rfl fun T X eT => ?_
  refine o_istoreN X hx hB #[.val (.ref g), .val (.ref w), .val (.int (2 : Int32))] d28_6 rfl ?_
  refine o_aloadN X hx hB d28_7 rfl rfl ?_
  refine own_kP (own_cif X hx hZ hB (W := 0) hown (W 188 rfl) (W 189 rfl) (W 190 rfl) (W 191 rfl) (W 192 rfl) (W 193 rfl) (W 194 rfl) (W 40 rfl) (W 195 rfl) (W 2 rfl) (by decide) (rm_29 l Z a0 hw [] dc kd cr cc mr hG g (2 : Int32) _ n0 (own_zO O) O F_size_g) (by decide) (by decide) eT E_g hml rfl pd_9 rfl rfl rfl d28_8 (by decide) (by decide)) rfl rfl fun T X eT => ?_
  refine o_iloadN X hx hB d28_13 rfl ?_
  refine o_icmpNo X hx hB d28_14 (Jvm.Free.XT.ii_ne_f rfl) ?_
  refine o_iloadN X hx hB d28_17 rfl ?_
  refine o_iconst X hx hB d28_18 (3) ?_
  refine o_icmpYes X hx hB d28_19 (Jvm.Free.XT.ii_le_t (by decide : ¬ ((3 : Int32) < (2 : Int32)))) 24 ?_
  refine o_iloadN X hx hB d28_24 rfl ?_
  refine o_ifNo X hx hB d28_25 (Jvm.Free.XT.i0_le_f (by decide : 0 < (2 : Int32))) ?_
  refine o_aloadN X hx hB d28_28 rfl rfl ?_
  refine o_iconst X hx hB d28_29 (0) ?_
  refine own_kP (own_cif X hx hZ hB (W := 0) hown (W 261 rfl) (W 262 rfl) (W 263 rfl) (W 264 rfl) (W 265 rfl) (W 266 rfl) (W 267 rfl) (W 40 rfl) (W 268 rfl) (W 2 rfl) (by decide) (rm_39 l Z a0 hw [] dc kd cr cc mr hG g (0 : Int32) eg kg vg (2 : Int32) r0 _ n0 (own_zO O) O E_g F_elementData_g F_size_g V_eg ⟨by decide, by decide⟩ (by decide) hg0) (by decide) (by decide) eT E_g hml rfl pd_15 rfl rfl rfl d28_30 (by decide) (by decide)) rfl rfl fun T X eT => ?_
  refine o_cast X hx hZ hB hown (W 282 rfl) eT (Ins.of_exa E_r0 (W 283 rfl)) d28_35 fun T X eT => ?_
  refine own_kP (own_cvi X hx hZ hB (W := 0) hown (W 284 rfl) (W 285 rfl) (W 287 rfl) (W 286 rfl) (W 288 rfl) (W 28 rfl) (by decide) (rm_43 l Z a0 hw [] dc kd cr cc mr hG r0 y0 _ n0 (own_zO O) O F_value_r0) (by decide) (by decide) eT E_r0 hml rfl pd_9 rfl rfl rfl d28_38 (by decide) (by decide)) rfl rfl fun T X eT => ?_
  refine o_aloadN X hx hB d28_41 rfl rfl ?_
  refine o_iconst X hx hB d28_42 (0) ?_
  refine own_kP (own_cif X hx hZ hB (W := 1) hown (W 261 rfl) (W 262 rfl) (W 263 rfl) (W 264 rfl) (W 265 rfl) (W 266 rfl) (W 267 rfl) (W 40 rfl) (W 268 rfl) (W 2 rfl) (by decide) (rm_39 l Z a0 hw [] dc kd cr cc mr hG w (0 : Int32) ew kw vw (2 : Int32) r0 _ n0 (own_zO O) O E_w F_elementData_w F_size_w V_ew ⟨by decide, by decide⟩ (by decide) hw0) (by decide) (by decide) eT E_w hml rfl pd_15 rfl rfl rfl d28_43 (by decide) (by decide)) rfl rfl fun T X eT => ?_
  refine o_cast X hx hZ hB hown (W 282 rfl) eT (Ins.of_exa E_r0 (W 283 rfl)) d28_48 fun T X eT => ?_
  refine own_kP (own_cvi X hx hZ hB (W := 1) hown (W 284 rfl) (W 285 rfl) (W 287 rfl) (W 286 rfl) (W 288 rfl) (W 28 rfl) (by decide) (rm_43 l Z a0 hw [] dc kd cr cc mr hG r0 y0 _ n0 (own_zO O) O F_value_r0) (by decide) (by decide) eT E_r0 hml rfl pd_9 rfl rfl rfl d28_51 (by decide) (by decide)) rfl rfl fun T X eT => ?_
  refine o_icmpYes X hx hB d28_54 (Jvm.Free.XT.ii_eq_t rfl) 59 ?_
  refine o_iloadN X hx hB d28_59 rfl ?_
  refine o_iconst X hx hB d28_60 (1) ?_
  refine o_icmpNo X hx hB d28_61 (Jvm.Free.XT.ii_le_f (by decide : (1 : Int32) < (2 : Int32))) ?_
  refine o_aloadN X hx hB d28_64 rfl rfl ?_
  refine o_iconst X hx hB d28_65 (1) ?_
  refine own_kP (own_cif X hx hZ hB (W := 0) hown (W 261 rfl) (W 262 rfl) (W 263 rfl) (W 264 rfl) (W 265 rfl) (W 266 rfl) (W 267 rfl) (W 40 rfl) (W 268 rfl) (W 2 rfl) (by decide) (rm_39 l Z a0 hw [] dc kd cr cc mr hG g (1 : Int32) eg kg vg (2 : Int32) r1 _ n0 (own_zO O) O E_g F_elementData_g F_size_g V_eg ⟨by decide, by decide⟩ (by decide) hg1) (by decide) (by decide) eT E_g hml rfl pd_15 rfl rfl rfl d28_66 (by decide) (by decide)) rfl rfl fun T X eT => ?_
  refine o_cast X hx hZ hB hown (W 282 rfl) eT (Ins.of_exa E_r1 (W 283 rfl)) d28_71 fun T X eT => ?_
  refine own_kP (own_cvi X hx hZ hB (W := 0) hown (W 284 rfl) (W 285 rfl) (W 287 rfl) (W 286 rfl) (W 288 rfl) (W 28 rfl) (by decide) (rm_43 l Z a0 hw [] dc kd cr cc mr hG r1 y1 _ n0 (own_zO O) O F_value_r1) (by decide) (by decide) eT E_r1 hml rfl pd_9 rfl rfl rfl d28_74 (by decide) (by decide)) rfl rfl fun T X eT => ?_
  refine o_aloadN X hx hB d28_77 rfl rfl ?_
  refine o_iconst X hx hB d28_78 (1) ?_
  refine own_kP (own_cif X hx hZ hB (W := 1) hown (W 261 rfl) (W 262 rfl) (W 263 rfl) (W 264 rfl) (W 265 rfl) (W 266 rfl) (W 267 rfl) (W 40 rfl) (W 268 rfl) (W 2 rfl) (by decide) (rm_39 l Z a0 hw [] dc kd cr cc mr hG w (1 : Int32) ew kw vw (2 : Int32) r1 _ n0 (own_zO O) O E_w F_elementData_w F_size_w V_ew ⟨by decide, by decide⟩ (by decide) hw1) (by decide) (by decide) eT E_w hml rfl pd_15 rfl rfl rfl d28_79 (by decide) (by decide)) rfl rfl fun T X eT => ?_
  refine o_cast X hx hZ hB hown (W 282 rfl) eT (Ins.of_exa E_r1 (W 283 rfl)) d28_84 fun T X eT => ?_
  refine own_kP (own_cvi X hx hZ hB (W := 1) hown (W 284 rfl) (W 285 rfl) (W 287 rfl) (W 286 rfl) (W 288 rfl) (W 28 rfl) (by decide) (rm_43 l Z a0 hw [] dc kd cr cc mr hG r1 y1 _ n0 (own_zO O) O F_value_r1) (by decide) (by decide) eT E_r1 hml rfl pd_9 rfl rfl rfl d28_87 (by decide) (by decide)) rfl rfl fun T X eT => ?_
  refine o_icmpYes X hx hB d28_90 (Jvm.Free.XT.ii_eq_t rfl) 95 ?_
  refine o_iloadN X hx hB d28_95 rfl ?_
  refine o_iconst X hx hB d28_96 (2) ?_
  refine o_icmpYes X hx hB d28_97 (Jvm.Free.XT.ii_le_t (by decide : ¬ ((2 : Int32) < (2 : Int32)))) 131 ?_
  refine o_iconst X hx hB d28_131 (1) ?_
  exact own_retN X hx (t := .boolean) Bd.returns (by simp) (hb hB d28_132) (BodyLoose.notSynchronized Bd) (w := (1 : Int32)) rfl ⟨rfl, rfl, eT⟩ (by decide) (by decide)
theorem d28_100 : decode method_3_code 100 = .ok (.aload_n 0, 1) := by decide +kernel
theorem d28_101 : decode method_3_code 101 = .ok (.iconst 2, 1) := by decide +kernel
theorem d28_102 : decode method_3_code 102 = .ok (.invokeinterface 47 2, 5) := by decide +kernel
theorem d28_107 : decode method_3_code 107 = .ok (.checkcast 11, 3) := by decide +kernel
theorem d28_110 : decode method_3_code 110 = .ok (.invokevirtual 51, 3) := by decide +kernel
theorem d28_113 : decode method_3_code 113 = .ok (.aload_n 1, 1) := by decide +kernel
theorem d28_114 : decode method_3_code 114 = .ok (.iconst 2, 1) := by decide +kernel
theorem d28_115 : decode method_3_code 115 = .ok (.invokeinterface 47 2, 5) := by decide +kernel
theorem d28_120 : decode method_3_code 120 = .ok (.checkcast 11, 3) := by decide +kernel
theorem d28_123 : decode method_3_code 123 = .ok (.invokevirtual 51, 3) := by decide +kernel
theorem d28_126 : decode method_3_code 126 = .ok (.if_icmp .eq 5, 3) := by decide +kernel
theorem ef_28_3 (m : MethodId) (g : Addr) (w : Addr) : entryFrame m #[(.ref g), (.ref w)] 3 = mkF m 0 #[.val (.ref g), .val (.ref w), .unset] [] := by first | (simp [entryFrame, mkF, argsToLocals, Value.category]; done) | rfl
abbrev own_room_28_3 : Room := { frames := 3, cells := 0, slots := 0, locals := 41 }
set_option maxRecDepth 65536 in
set_option maxHeartbeats 40000000 in
theorem rm_28_3 (l : Launch) (Z : State) (a0 : Array Value) (hw : own_Hw a0 Z) (ws : List Jvm.Cond) (dc : Addr) (kd : ClassId) (cr : Addr) (cc : Cell) (mr : Addr) (hG : own_G Z dc kd cr cc mr) (g w eg : Addr) (kg : ClassId) (vg : List Value) (ew : Addr) (kw : ClassId) (vw : List Value) (r0 : Addr) (y0 : Int32) (r1 : Addr) (y1 : Int32) (r2 : Addr) (y2 : Int32) (h0 : Heap) (n0 : Nat) (Z0 : n0 ≤ h0.size) (hO : Old Z n0 h0) (E_g : Exa Z h0 g "java/util/ArrayList") (F_elementData_g : Fld Z h0 g "java/util/ArrayList" "elementData" "[Ljava/lang/Object;" (.ref eg)) (F_size_g : Fld Z h0 g "java/util/ArrayList" "size" "I" (.int (3 : Int32))) (V_eg : own_AR Z h0 eg kg (10 : Int32) vg) (E_w : Exa Z h0 w "java/util/ArrayList") (F_elementData_w : Fld Z h0 w "java/util/ArrayList" "elementData" "[Ljava/lang/Object;" (.ref ew)) (F_size_w : Fld Z h0 w "java/util/ArrayList" "size" "I" (.int (3 : Int32))) (V_ew : own_AR Z h0 ew kw (10 : Int32) vw) (E_r0 : Exa Z h0 r0 "java/lang/Integer") (F_value_r0 : Fld Z h0 r0 "java/lang/Integer" "value" "I" (.int y0)) (E_r1 : Exa Z h0 r1 "java/lang/Integer") (F_value_r1 : Fld Z h0 r1 "java/lang/Integer" "value" "I" (.int y1)) (E_r2 : Exa Z h0 r2 "java/lang/Integer") (F_value_r2 : Fld Z h0 r2 "java/lang/Integer" "value" "I" (.int y2)) (hg0 : vg.getD (0 : Int32).toNatClampNeg .null = .ref r0) (hw0 : vw.getD (0 : Int32).toNatClampNeg .null = .ref r0) (hg1 : vg.getD (1 : Int32).toNatClampNeg .null = .ref r1) (hw1 : vw.getD (1 : Int32).toNatClampNeg .null = .ref r1) (hg2 : vg.getD (2 : Int32).toNatClampNeg .null = .ref r2) (hw2 : vw.getD (2 : Int32).toNatClampNeg .null = .ref r2) :
    own_Met l (⟨"com/example/sandpiper/sandpiper/broker/AwaitingSyncAddPinLaw", "same", "(Ljava/util/List;Ljava/util/List;)Z"⟩ : MethodName) (Jvm.Cond.code (⟨"com/example/sandpiper/sandpiper/broker/AwaitingSyncAddPinLaw", "same", "(Ljava/util/List;Ljava/util/List;)Z"⟩ : MethodName) method_3_code 3 (some .boolean)) ws own_room_28_3 #[(.ref g), (.ref w)] Z h0 (own_Qp (some (.int (1 : Int32))) h0) own_room_28_3.cells own_room_28_3.slots := by
  refine MetFree.of_bodySF (plainFor_of_name pn_28) hisR ?_
  intro p e s m args below meth c T Bd hml0 hP hK
  obtain ⟨rfl, hZ, hh⟩ := hP
  obtain ⟨hx, hB⟩ := And.intro Bd.exec Bd.bytes
  have hml : c.maxLocals = 3 := hml0
  have hown : s.vm.findClass "com/example/sandpiper/sandpiper/broker/AwaitingSyncAddPinLaw" = some m.cls := findClass_of_methodNamed Bd.named
  have hnm := (name_of_methodNamed Bd.named Bd.method).1
  have X : Stand p l e own_room_28_3 s m #[(.ref g), (.ref w)] below meth c T [] 0 0 := Stand.of_body Bd
  have eT : T.heap = h0 := by rw [← hh, Bd.state]; rfl
  have W := @own_Wd a0 Z hw
  have N := Fr.nil n0
  have O := hO
  refine own_enter (ef_28_3 m g w) ?_
  show own_Goes _ _ _ _ (own_P s (own_Qp (some (.int (1 : Int32))) h0) own_room_28_3.cells own_room_28_3.slots)
  refine o_aloadN X hx hB d28_0 rfl rfl ?_
  refine own_kP (own_cif X hx hZ hB (W := 0) hown (W 188 rfl) (W 189 rfl) (W 190 rfl) (W 191 rfl) (W 192 rfl) (W 193 rfl) (W 194 rfl) (W 40 rfl) (W 195 rfl) (W 2 rfl) (by decide) (rm_29 l Z a0 hw [] dc kd cr cc mr hG w (3 : Int32) _ n0 (own_zO O) O F_size_w) (by decide) (by decide) eT E_w hml rfl pd_9 rfl rfl rfl d28_1 (by decide) (by decide)) rfl rfl fun T X eT => ?_
  refine o_istoreN X hx hB #[.val (.ref g), .val (.ref w), .val (.int (3 : Int32))] d28_6 rfl ?_
  refine o_aloadN X hx hB d28_7 rfl rfl ?_
  refine own_kP (own_cif X hx hZ hB (W := 0) hown (W 188 rfl) (W 189 rfl) (W 190 rfl) (W 191 rfl) (W 192 rfl) (W 193 rfl) (W 194 rfl) (W 40 rfl) (W 195 rfl) (W 2 rfl) (by decide) (rm_29 l Z a0 hw [] dc kd cr cc mr hG g (3 : Int32) _ n0 (own_zO O) O F_size_g) (by decide) (by decide) eT E_g hml rfl pd_9 rfl rfl rfl d28_8 (by decide) (by decide)) rfl rfl fun T X eT => ?_
  refine o_iloadN X hx hB d28_13 rfl ?_
  refine o_icmpNo X hx hB d28_14 (Jvm.Free.XT.ii_ne_f rfl) ?_
  refine o_iloadN X hx hB d28_17 rfl ?_
  refine o_iconst X hx hB d28_18 (3) ?_
  refine o_icmpYes X hx hB d28_19 (Jvm.Free.XT.ii_le_t (by decide : ¬ ((3 : Int32) < (3 : Int32)))) 24 ?_
  refine o_iloadN X hx hB d28_24 rfl ?_
  refine o_ifNo X hx hB d28_25 (Jvm.Free.XT.i0_le_f (by decide : 0 < (3 : Int32))) ?_
  refine o_aloadN X hx hB d28_28 rfl rfl ?_
  refine o_iconst X hx hB d28_29 (0) ?_
  refine own_kP (own_cif X hx hZ hB (W := 0) hown (W 261 rfl) (W 262 rfl) (W 263 rfl) (W 264 rfl) (W 265 rfl) (W 266 rfl) (W 267 rfl) (W 40 rfl) (W 268 rfl) (W 2 rfl) (by decide) (rm_39 l Z a0 hw [] dc kd cr cc mr hG g (0 : Int32) eg kg vg (3 : Int32) r0 _ n0 (own_zO O) O E_g F_elementData_g F_size_g V_eg ⟨by decide, by decide⟩ (by decide) hg0) (by decide) (by decide) eT E_g hml rfl pd_15 rfl rfl rfl d28_30 (by decide) (by decide)) rfl rfl fun T X eT => ?_
  refine o_cast X hx hZ hB hown (W 282 rfl) eT (Ins.of_exa E_r0 (W 283 rfl)) d28_35 fun T X eT => ?_
  refine own_kP (own_cvi X hx hZ hB (W := 0) hown (W 284 rfl) (W 285 rfl) (W 287 rfl) (W 286 rfl) (W 288 rfl) (W 28 rfl) (by decide) (rm_43 l Z a0 hw [] dc kd cr cc mr hG r0 y0 _ n0 (own_zO O) O F_value_r0) (by decide) (by decide) eT E_r0 hml rfl pd_9 rfl rfl rfl d28_38 (by decide) (by decide)) rfl rfl fun T X eT => ?_
  refine o_aloadN X hx hB d28_41 rfl rfl ?_
  refine o_iconst X hx hB d28_42 (0) ?_
  refine own_kP (own_cif X hx hZ hB (W := 1) hown (W 261 rfl) (W 262 rfl) (W 263 rfl) (W 264 rfl) (W 265 rfl) (W 266 rfl) (W 267 rfl) (W 40 rfl) (W 268 rfl) (W 2 rfl) (by decide) (rm_39 l Z a0 hw [] dc kd cr cc mr hG w (0 : Int32) ew kw vw (3 : Int32) r0 _ n0 (own_zO O) O E_w F_elementData_w F_size_w V_ew ⟨by decide, by decide⟩ (by decide) hw0) (by decide) (by decide) eT E_w hml rfl pd_15 rfl rfl rfl d28_43 (by decide) (by decide)) rfl rfl fun T X eT => ?_
  refine o_cast X hx hZ hB hown (W 282 rfl) eT (Ins.of_exa E_r0 (W 283 rfl)) d28_48 fun T X eT => ?_
  refine own_kP (own_cvi X hx hZ hB (W := 1) hown (W 284 rfl) (W 285 rfl) (W 287 rfl) (W 286 rfl) (W 288 rfl) (W 28 rfl) (by decide) (rm_43 l Z a0 hw [] dc kd cr cc mr hG r0 y0 _ n0 (own_zO O) O F_value_r0) (by decide) (by decide) eT E_r0 hml rfl pd_9 rfl rfl rfl d28_51 (by decide) (by decide)) rfl rfl fun T X eT => ?_
  refine o_icmpYes X hx hB d28_54 (Jvm.Free.XT.ii_eq_t rfl) 59 ?_
  refine o_iloadN X hx hB d28_59 rfl ?_
  refine o_iconst X hx hB d28_60 (1) ?_
  refine o_icmpNo X hx hB d28_61 (Jvm.Free.XT.ii_le_f (by decide : (1 : Int32) < (3 : Int32))) ?_
  refine o_aloadN X hx hB d28_64 rfl rfl ?_
  refine o_iconst X hx hB d28_65 (1) ?_
  refine own_kP (own_cif X hx hZ hB (W := 0) hown (W 261 rfl) (W 262 rfl) (W 263 rfl) (W 264 rfl) (W 265 rfl) (W 266 rfl) (W 267 rfl) (W 40 rfl) (W 268 rfl) (W 2 rfl) (by decide) (rm_39 l Z a0 hw [] dc kd cr cc mr hG g (1 : Int32) eg kg vg (3 : Int32) r1 _ n0 (own_zO O) O E_g F_elementData_g F_size_g V_eg ⟨by decide, by decide⟩ (by decide) hg1) (by decide) (by decide) eT E_g hml rfl pd_15 rfl rfl rfl d28_66 (by decide) (by decide)) rfl rfl fun T X eT => ?_
  refine o_cast X hx hZ hB hown (W 282 rfl) eT (Ins.of_exa E_r1 (W 283 rfl)) d28_71 fun T X eT => ?_
  refine own_kP (own_cvi X hx hZ hB (W := 0) hown (W 284 rfl) (W 285 rfl) (W 287 rfl) (W 286 rfl) (W 288 rfl) (W 28 rfl) (by decide) (rm_43 l Z a0 hw [] dc kd cr cc mr hG r1 y1 _ n0 (own_zO O) O F_value_r1) (by decide) (by decide) eT E_r1 hml rfl pd_9 rfl rfl rfl d28_74 (by decide) (by decide)) rfl rfl fun T X eT => ?_
  refine o_aloadN X hx hB d28_77 rfl rfl ?_
  refine o_iconst X hx hB d28_78 (1) ?_
  refine own_kP (own_cif X hx hZ hB (W := 1) hown (W 261 rfl) (W 262 rfl) (W 263 rfl) (W 264 rfl) (W 265 rfl) (W 266 rfl) (W 267 rfl) (W 40 rfl) (W 268 rfl) (W 2 rfl) (by decide) (rm_39 l Z a0 hw [] dc kd cr cc mr hG w (1 : Int32) ew kw vw (3 : Int32) r1 _ n0 (own_zO O) O E_w F_elementData_w F_size_w V_ew ⟨by decide, by decide⟩ (by decide) hw1) (by decide) (by decide) eT E_w hml rfl pd_15 rfl rfl rfl d28_79 (by decide) (by decide)) rfl rfl fun T X eT => ?_
  refine o_cast X hx hZ hB hown (W 282 rfl) eT (Ins.of_exa E_r1 (W 283 rfl)) d28_84 fun T X eT => ?_
  refine own_kP (own_cvi X hx hZ hB (W := 1) hown (W 284 rfl) (W 285 rfl) (W 287 rfl) (W 286 rfl) (W 288 rfl) (W 28 rfl) (by decide) (rm_43 l Z a0 hw [] dc kd cr cc mr hG r1 y1 _ n0 (own_zO O) O F_value_r1) (by decide) (by decide) eT E_r1 hml rfl pd_9 rfl rfl rfl d28_87 (by decide) (by decide)) rfl rfl fun T X eT => ?_
  refine o_icmpYes X hx hB d28_90 (Jvm.Free.XT.ii_eq_t rfl) 95 ?_
  refine o_iloadN X hx hB d28_95 rfl ?_
  refine o_iconst X hx hB d28_96 (2) ?_
  refine o_icmpNo X hx hB d28_97 (Jvm.Free.XT.ii_le_f (by decide : (2 : Int32) < (3 : Int32))) ?_
  refine o_aloadN X hx hB d28_100 rfl rfl ?_
  refine o_iconst X hx hB d28_101 (2) ?_
  refine own_kP (own_cif X hx hZ hB (W := 0) hown (W 261 rfl) (W 262 rfl) (W 263 rfl) (W 264 rfl) (W 265 rfl) (W 266 rfl) (W 267 rfl) (W 40 rfl) (W 268 rfl) (W 2 rfl) (by decide) (rm_39 l Z a0 hw [] dc kd cr cc mr hG g (2 : Int32) eg kg vg (3 : Int32) r2 _ n0 (own_zO O) O E_g F_elementData_g F_size_g V_eg ⟨by decide, by decide⟩ (by decide) hg2) (by decide) (by decide) eT E_g hml rfl pd_15 rfl rfl rfl d28_102 (by decide) (by decide)) rfl rfl fun T X eT => ?_
  refine o_cast X hx hZ hB hown (W 282 rfl) eT (Ins.of_exa E_r2 (W 283 rfl)) d28_107 fun T X eT => ?_
  refine own_kP (own_cvi X hx hZ hB (W := 0) hown (W 284 rfl) (W 285 rfl) (W 287 rfl) (W 286 rfl) (W 288 rfl) (W 28 rfl) (by decide) (rm_43 l Z a0 hw [] dc kd cr cc mr hG r2 y2 _ n0 (own_zO O) O F_value_r2) (by decide) (by decide) eT E_r2 hml rfl pd_9 rfl rfl rfl d28_110 (by decide) (by decide)) rfl rfl fun T X eT => ?_
  refine o_aloadN X hx hB d28_113 rfl rfl ?_
  refine o_iconst X hx hB d28_114 (2) ?_
  refine own_kP (own_cif X hx hZ hB (W := 1) hown (W 261 rfl) (W 262 rfl) (W 263 rfl) (W 264 rfl) (W 265 rfl) (W 266 rfl) (W 267 rfl) (W 40 rfl) (W 268 rfl) (W 2 rfl) (by decide) (rm_39 l Z a0 hw [] dc kd cr cc mr hG w (2 : Int32) ew kw vw (3 : Int32) r2 _ n0 (own_zO O) O E_w F_elementData_w F_size_w V_ew ⟨by decide, by decide⟩ (by decide) hw2) (by decide) (by decide) eT E_w hml rfl pd_15 rfl rfl rfl d28_115 (by decide) (by decide)) rfl rfl fun T X eT => ?_
  refine o_cast X hx hZ hB hown (W 282 rfl) eT (Ins.of_exa E_r2 (W 283 rfl)) d28_120 fun T X eT => ?_
  refine own_kP (own_cvi X hx hZ hB (W := 1) hown (W 284 rfl) (W 285 rfl) (W 287 rfl) (W 286 rfl) (W 288 rfl) (W 28 rfl) (by decide) (rm_43 l Z a0 hw [] dc kd cr cc mr hG r2 y2 _ n0 (own_zO O) O F_value_r2) (by decide) (by decide) eT E_r2 hml rfl pd_9 rfl rfl rfl d28_123 (by decide) (by decide)) rfl rfl fun T X eT => ?_
  refine o_icmpYes X hx hB d28_126 (Jvm.Free.XT.ii_eq_t rfl) 131 ?_
  refine o_iconst X hx hB d28_131 (1) ?_
  exact own_retN X hx (t := .boolean) Bd.returns (by simp) (hb hB d28_132) (BodyLoose.notSynchronized Bd) (w := (1 : Int32)) rfl ⟨rfl, rfl, eT⟩ (by decide) (by decide)
theorem d22_0 : decode prog_16_method_3_code 0 = .ok (.new 27, 3) := by decide +kernel
theorem d22_3 : decode prog_16_method_3_code 3 = .ok (.dup, 1) := by decide +kernel
theorem d22_4 : decode prog_16_method_3_code 4 = .ok (.invokespecial 29, 3) := by decide +kernel
theorem d22_7 : decode prog_16_method_3_code 7 = .ok (.astore_n 3, 1) := by decide +kernel
theorem d22_8 : decode prog_16_method_3_code 8 = .ok (.aload_n 0, 1) := by decide +kernel
theorem d22_9 : decode prog_16_method_3_code 9 = .ok (.getfield 10, 3) := by decide +kernel
theorem d22_12 : decode prog_16_method_3_code 12 = .ok (.invokeinterface 30 1, 5) := by decide +kernel
theorem d22_17 : decode prog_16_method_3_code 17 = .ok (.ifCond .ne 48, 3) := by decide +kernel
theorem d22_65 : decode prog_16_method_3_code 65 = .ok (.aload_n 3, 1) := by decide +kernel
theorem d22_66 : decode prog_16_method_3_code 66 = .ok (.areturn, 1) := by decide +kernel
theorem pd_16 : parseMethodDescriptor "()Z" = some ⟨[], some .boolean⟩ := by decide +kernel
theorem pn_22 : plainName "com/example/sandpiper/sandpiper/broker/AwaitingSync" = true := by first | (simp [plainName, overriddenIn]; done) | decide +kernel
theorem ef_22_0 (m : MethodId) (a : Addr) (q : Int64) : entryFrame m #[(.ref a), (.long q)] 4 = mkF m 0 #[.val (.ref a), .val (.long q), .second, .unset] [] := by first | (simp [entryFrame, mkF, argsToLocals, Value.category]; done) | rfl
abbrev own_room_22_0 : Room := { frames := 4, cells := 1, slots := 3, locals := 49 }
def own_Q_22_0 (Z : State) (dc : Addr) (kd : ClassId) (cr : Addr) (cc : Cell) (mr : Addr) (a : Addr) (q : Int64) (d ea : Addr) (k : ClassId) (vs : List Value) (hd tl : Int32) (h0 : Heap) (n0 : Nat) (v : Option Value) (h : Heap) (L : List Loc) : Prop := ∃ b : Addr, v = (some (.ref b)) ∧ Fr n0 L ∧ Keep h0 h [] ∧ Exa Z h b "java/util/ArrayList" ∧ Fld Z h b "java/util/AbstractList" "modCount" "I" (.int (0 : Int32)) ∧ Fld Z h b "java/util/ArrayList" "elementData" "[Ljava/lang/Object;" (.ref dc) ∧ Fld Z h b "java/util/ArrayList" "size" "I" (.int (0 : Int32)) ∧ h0.size ≤ b
set_option maxRecDepth 65536 in
set_option maxHeartbeats 40000000 in
theorem rm_22_0 (l : Launch) (Z : State) (a0 : Array Value) (hw : own_Hw a0 Z) (ws : List Jvm.Cond) (dc : Addr) (kd : ClassId) (cr : Addr) (cc : Cell) (mr : Addr) (hG : own_G Z dc kd cr cc mr) (a : Addr) (q : Int64) (d ea : Addr) (k : ClassId) (vs : List Value) (hd tl : Int32) (h0 : Heap) (n0 : Nat) (Z0 : n0 ≤ h0.size) (hO : Old Z n0 h0) (E_a : Exa Z h0 a "com/example/sandpiper/sandpiper/broker/AwaitingSync") (F_batches_a : Fld Z h0 a "com/example/sandpiper/sandpiper/broker/AwaitingSync" "batches" "Ljava/util/Deque;" (.ref d)) (E_d : Exa Z h0 d "java/util/ArrayDeque") (F_elements_d : Fld Z h0 d "java/util/ArrayDeque" "elements" "[Ljava/lang/Object;" (.ref ea)) (F_head_d : Fld Z h0 d "java/util/ArrayDeque" "head" "I" (.int hd)) (F_tail_d : Fld Z h0 d "java/util/ArrayDeque" "tail" "I" (.int tl)) (V_ea : own_AR Z h0 ea k (17 : Int32) vs) (ne_d_ea : d ≠ ea) (hend : hd = tl) :
    own_Met l (⟨"com/example/sandpiper/sandpiper/broker/AwaitingSync", "due", "(J)Ljava/util/List;"⟩ : MethodName) (Jvm.Cond.code (⟨"com/example/sandpiper/sandpiper/broker/AwaitingSync", "due", "(J)Ljava/util/List;"⟩ : MethodName) prog_16_method_3_code 4 (some (.object "java/util/List"))) ws own_room_22_0 #[(.ref a), (.long q)] Z h0 (own_Q_22_0 Z dc kd cr cc mr a q d ea k vs hd tl h0 n0) own_room_22_0.cells own_room_22_0.slots := by
  refine MetFree.of_bodySF (plainFor_of_name pn_22) hisR ?_
  intro p e s m args below meth c T Bd hml0 hP hK
  obtain ⟨rfl, hZ, hh⟩ := hP
  obtain ⟨hx, hB⟩ := And.intro Bd.exec Bd.bytes
  have hml : c.maxLocals = 4 := hml0
  have hown : s.vm.findClass "com/example/sandpiper/sandpiper/broker/AwaitingSync" = some m.cls := findClass_of_methodNamed Bd.named
  have hnm := (name_of_methodNamed Bd.named Bd.method).1
  have X : Stand p l e own_room_22_0 s m #[(.ref a), (.long q)] below meth c T [] 0 0 := Stand.of_body Bd
  have eT : T.heap = h0 := by rw [← hh, Bd.state]; rfl
  have W := @own_Wd a0 Z hw
  have N := Fr.nil n0
  have O := hO
  have K := Keep.refl h0 []
  refine own_enter (ef_22_0 m a q) ?_
  show own_Goes _ _ _ _ (own_P s (own_Q_22_0 Z dc kd cr cc mr a q d ea k vs hd tl h0 n0) own_room_22_0.cells own_room_22_0.slots)
  refine o_new X hx hZ hB hown (W 152 rfl) (W 1 rfl) (W 2 rfl) eT d22_0 (by decide) (by decide) fun T h1 b0 g1 X eT E1 A1 D1 => ?_
  have g_b0 := own_gn O g1
  have sz_b0 := own_gz K g1
  have K := K.ext E1
  have O := O.ext E1
  refine o_dup X hx hB d22_3 rfl ?_
  have f2 := D1 (Or.inl (W 22 rfl)) (ty := .int) (by decide)
  have f3 := D1 (Or.inl (W 25 rfl)) (ty := (.array (.object "java/lang/Object"))) (by decide)
  have f4 := D1 (Or.inl (W 45 rfl)) (ty := .int) (by decide)
  refine own_kQ (own_csp X hx hZ hB (W := 1) hown rfl (W 153 rfl) (W 4 rfl) (W 5 rfl) (W 2 rfl) (by decide) (rm_1 l Z a0 hw [] dc kd cr cc mr hG b0 (0 : Int32) (0 : Int32) _ n0 (own_zO O) O A1 f2 f3 f4 g_b0) (by decide) (by decide) eT hml rfl pd_0 rfl rfl rfl d22_4 (by decide) (by decide)) fun v T L5 hQ X => ?_
  obtain ⟨rfl, Nq5, Kq5, t5_0, t5_1, t5_2, t5_3⟩ := hQ
  have N := Fr.app N Nq5
  have K := K.trans Kq5 (allS (Or.inr sz_b0) all0)
  have O := O.keep Kq5 (allS g_b0 all0)
  refine o_astoreN X hx hB #[.val (.ref a), .val (.long q), .second, .val (.ref b0)] d22_7 rfl rfl ?_
  refine o_aloadN X hx hB d22_8 rfl rfl ?_
  have z6 := own_ne1 E_a.lt g1
  have f7 := (F_batches_a.ext E1).keep Kq5 (ninS z6 nin0)
  refine o_getF X hx hZ hB hown (W 86 rfl) Via.refl rfl f7 d22_9 fun T X eT => ?_
  have z8 := own_ne1 E_d.lt g1
  have f9 := (F_head_d.ext E1).keep Kq5 (ninS z8 nin0)
  have f10 := (F_tail_d.ext E1).keep Kq5 (ninS z8 nin0)
  have f11 := (E_d.ext E1).keep Kq5
  refine own_kP (own_ciu X hx hZ hB (W := 0) hown (W 154 rfl) (W 155 rfl) (W 156 rfl) (by decide) (by decide) (W 157 rfl) (W 158 rfl) (W 159 rfl) (W 160 rfl) (W 116 rfl) (W 161 rfl) (W 77 rfl) (by decide) (rm_23 l Z a0 hw [] dc kd cr cc mr hG d hd tl _ n0 (own_zO O) O f9 f10) (by decide) (by decide) eT f11 hml rfl pd_16 rfl rfl rfl d22_12 (by decide) (by decide)) rfl rfl fun T X eT => ?_
  refine o_ifYes X hx hB d22_17 (Jvm.Free.XT.i0_ne_t (by rw [if_pos hend]; decide : ¬ ((if hd = tl then (1 : Int32) else (0 : Int32)) = 0))) 65 ?_
  refine o_aloadN X hx hB d22_65 rfl rfl ?_
  exact own_retA X hx Bd.returns (hb hB d22_66) (BodyLoose.notSynchronized Bd) rfl rfl (by rw [eT]; exact ⟨b0, rfl, N, K, t5_0, t5_1, t5_2, t5_3, sz_b0⟩) (by decide) (by decide)
theorem d22_20 : decode prog_16_method_3_code 20 = .ok (.aload_n 0, 1) := by decide +kernel
theorem d22_21 : decode prog_16_method_3_code 21 = .ok (.getfield 10, 3) := by decide +kernel
theorem d22_24 : decode prog_16_method_3_code 24 = .ok (.invokeinterface 34 1, 5) := by decide +kernel
theorem d22_29 : decode prog_16_method_3_code 29 = .ok (.checkcast 16, 3) := by decide +kernel
theorem d22_32 : decode prog_16_method_3_code 32 = .ok (.invokevirtual 38, 3) := by decide +kernel
theorem d22_35 : decode prog_16_method_3_code 35 = .ok (.lload_n 1, 1) := by decide +kernel
theorem d22_36 : decode prog_16_method_3_code 36 = .ok (.lcmp, 1) := by decide +kernel
theorem d22_37 : decode prog_16_method_3_code 37 = .ok (.ifCond .gt 28, 3) := by decide +kernel
theorem pd_17 : parseMethodDescriptor "()J" = some ⟨[], some .long⟩ := by decide +kernel
theorem ef_22_A (m : MethodId) (a : Addr) (q : Int64) : entryFrame m #[(.ref a), (.long q)] 4 = mkF m 0 #[.val (.ref a), .val (.long q), .second, .unset] [] := by first | (simp [entryFrame, mkF, argsToLocals, Value.category]; done) | rfl
abbrev own_room_22_A : Room := { frames := 4, cells := 1, slots := 3, locals := 49 }
def own_Q_22_A (Z : State) (dc : Addr) (kd : ClassId) (cr : Addr) (cc : Cell) (mr : Addr) (a : Addr) (q : Int64) (d ea : Addr) (k : ClassId) (vs : List Value) (hd tl : Int32) (x1 : Addr) (lw1 : Int64) (r1 : Addr) (h0 : Heap) (n0 : Nat) (v : Option Value) (h : Heap) (L : List Loc) : Prop := ∃ b : Addr, v = (some (.ref b)) ∧ Fr n0 L ∧ Keep h0 h [] ∧ Exa Z h b "java/util/ArrayList" ∧ Fld Z h b "java/util/AbstractList" "modCount" "I" (.int (0 : Int32)) ∧ Fld Z h b "java/util/ArrayList" "elementData" "[Ljava/lang/Object;" (.ref dc) ∧ Fld Z h b "java/util/ArrayList" "size" "I" (.int (0 : Int32)) ∧ h0.size ≤ b
set_option maxRecDepth 65536 in
set_option maxHeartbeats 40000000 in
theorem rm_22_A (l : Launch) (Z : State) (a0 : Array Value) (hw : own_Hw a0 Z) (ws : List Jvm.Cond) (dc : Addr) (kd : ClassId) (cr : Addr) (cc : Cell) (mr : Addr) (hG : own_G Z dc kd cr cc mr) (a : Addr) (q : Int64) (d ea : Addr) (k : ClassId) (vs : List Value) (hd tl : Int32) (x1 : Addr) (lw1 : Int64) (r1 : Addr) (h0 : Heap) (n0 : Nat) (Z0 : n0 ≤ h0.size) (hO : Old Z n0 h0) (E_a : Exa Z h0 a "com/example/sandpiper/sandpiper/broker/AwaitingSync") (F_batches_a : Fld Z h0 a "com/example/sandpiper/sandpiper/broker/AwaitingSync" "batches" "Ljava/util/Deque;" (.ref d)) (E_d : Exa Z h0 d "java/util/ArrayDeque") (F_elements_d : Fld Z h0 d "java/util/ArrayDeque" "elements" "[Ljava/lang/Object;" (.ref ea)) (F_head_d : Fld Z h0 d "java/util/ArrayDeque" "head" "I" (.int hd)) (F_tail_d : Fld Z h0 d "java/util/ArrayDeque" "tail" "I" (.int tl)) (V_ea : own_AR Z h0 ea k (17 : Int32) vs) (ne_d_ea : d ≠ ea) (E_x1 : Exa Z h0 x1 "com/example/sandpiper/sandpiper/broker/AwaitingSync$Batch") (F_lastWrite_x1 : Fld Z h0 x1 "com/example/sandpiper/sandpiper/broker/AwaitingSync$Batch" "lastWrite" "J" (.long lw1)) (F_kept_x1 : Fld Z h0 x1 "com/example/sandpiper/sandpiper/broker/AwaitingSync$Batch" "kept" "Ljava/util/List;" (.ref r1)) (hem1 : ¬ (hd = tl)) (hhd1 : ¬ hd < 0 ∧ hd < (17 : Int32)) (hv1 : vs.getD hd.toNatClampNeg .null = .ref x1) (hq1 : q < lw1) :
    own_Met l (⟨"com/example/sandpiper/sandpiper/broker/AwaitingSync", "due", "(J)Ljava/util/List;"⟩ : MethodName) (Jvm.Cond.code (⟨"com/example/sandpiper/sandpiper/broker/AwaitingSync", "due", "(J)Ljava/util/List;"⟩ : MethodName) prog_16_method_3_code 4 (some (.object "java/util/List"))) ws own_room_22_A #[(.ref a), (.long q)] Z h0 (own_Q_22_A Z dc kd cr cc mr a q d ea k vs hd tl x1 lw1 r1 h0 n0) own_room_22_A.cells own_room_22_A.slots := by
  refine MetFree.of_bodySF (plainFor_of_name pn_22) hisR ?_
  intro p e s m args below meth c T Bd hml0 hP hK
  obtain ⟨rfl, hZ, hh⟩ := hP
  obtain ⟨hx, hB⟩ := And.intro Bd.exec Bd.bytes
  have hml : c.maxLocals = 4 := hml0
  have hown : s.vm.findClass "com/example/sandpiper/sandpiper/broker/AwaitingSync" = some m.cls := findClass_of_methodNamed Bd.named
  have hnm := (name_of_methodNamed Bd.named Bd.method).1
  have X : Stand p l e own_room_22_A s m #[(.ref a), (.long q)] below meth c T [] 0 0 := Stand.of_body Bd
  have eT : T.heap = h0 := by rw [← hh, Bd.state]; rfl
  have W := @own_Wd a0 Z hw
  have N := Fr.nil n0
  have O := hO
  have K := Keep.refl h0 []
  refine own_enter (ef_22_A m a q) ?_
  show own_Goes _ _ _ _ (own_P s (own_Q_22_A Z dc kd cr cc mr a q d ea k vs hd tl x1 lw1 r1 h0 n0) own_room_22_A.cells own_room_22_A.slots)
  refine o_new X hx hZ hB hown (W 152 rfl) (W 1 rfl) (W 2 rfl) eT d22_0 (by decide) (by decide) fun T h1 b0 g1 X eT E1 A1 D1 => ?_
  have g_b0 := own_gn O g1
  have sz_b0 := own_gz K g1
  have K := K.ext E1
  have O := O.ext E1
  refine o_dup X hx hB d22_3 rfl ?_
  have f2 := D1 (Or.inl (W 22 rfl)) (ty := .int) (by decide)
  have f3 := D1 (Or.inl (W 25 rfl)) (ty := (.array (.object "java/lang/Object"))) (by decide)
  have f4 := D1 (Or.inl (W 45 rfl)) (ty := .int) (by decide)
  refine own_kQ (own_csp X hx hZ hB (W := 1) hown rfl (W 153 rfl) (W 4 rfl) (W 5 rfl) (W 2 rfl) (by decide) (rm_1 l Z a0 hw [] dc kd cr cc mr hG b0 (0 : Int32) (0 : Int32) _ n0 (own_zO O) O A1 f2 f3 f4 g_b0) (by decide) (by decide) eT hml rfl pd_0 rfl rfl rfl d22_4 (by decide) (by decide)) fun v T L5 hQ X => ?_
  obtain ⟨rfl, Nq5, Kq5, t5_0, t5_1, t5_2, t5_3⟩ := hQ
  have N := Fr.app N Nq5
  have K := K.trans Kq5 (allS (Or.inr sz_b0) all0)
  have O := O.keep Kq5 (allS g_b0 all0)
  refine o_astoreN X hx hB #[.val (.ref a), .val (.long q), .second, .val (.ref b0)] d22_7 rfl rfl ?_
  refine o_aloadN X hx hB d22_8 rfl rfl ?_
  have z6 := own_ne1 E_a.lt g1
  have f7 := (F_batches_a.ext E1).keep Kq5 (ninS z6 nin0)
  refine o_getF X hx hZ hB hown (W 86 rfl) Via.refl rfl f7 d22_9 fun T X eT => ?_
  have z8 := own_ne1 E_d.lt g1
  have f9 := (F_head_d.ext E1).keep Kq5 (ninS z8 nin0)
  have f10 := (F_tail_d.ext E1).keep Kq5 (ninS z8 nin0)
  have f11 := (E_d.ext E1).keep Kq5
  refine own_kP (own_ciu X hx hZ hB (W := 0) hown (W 154 rfl) (W 155 rfl) (W 156 rfl) (by decide) (by decide) (W 157 rfl) (W 158 rfl) (W 159 rfl) (W 160 rfl) (W 116 rfl) (W 161 rfl) (W 77 rfl) (by decide) (rm_23 l Z a0 hw [] dc kd cr cc mr hG d hd tl _ n0 (own_zO O) O f9 f10) (by decide) (by decide) eT f11 hml rfl pd_16 rfl rfl rfl d22_12 (by decide) (by decide)) rfl rfl fun T X eT => ?_
  refine o_ifNo X hx hB d22_17 (Jvm.Free.XT.i0_ne_f (by rw [if_neg hem1] : (if hd = tl then (1 : Int32) else (0 : Int32)) = 0)) ?_
  refine o_aloadN X hx hB d22_20 rfl rfl ?_
  refine o_getF X hx hZ hB hown (W 86 rfl) Via.refl eT f7 d22_21 fun T X eT => ?_
  have f12 := (F_elements_d.ext E1).keep Kq5 (ninS z8 nin0)
  have z13 := own_ne1 V_ea.2.2.2.lt g1
  have f14 := (V_ea.ext E1).keep Kq5 (ninS z13 nin0)
  refine own_kP (own_cif X hx hZ hB (W := 0) hown (W 162 rfl) (W 163 rfl) (W 164 rfl) (W 165 rfl) (W 166 rfl) (W 167 rfl) (W 168 rfl) (W 116 rfl) (W 169 rfl) (W 77 rfl) (by decide) (rm_24 l Z a0 hw [] dc kd cr cc mr hG d ea k vs hd tl x1 _ n0 (own_zO O) O f11 f12 f9 f10 f14 hhd1 hv1) (by decide) (by decide) eT f11 hml rfl pd_11 rfl rfl rfl d22_24 (by decide) (by decide)) rfl rfl fun T X eT => ?_
  have f15 := (E_x1.ext E1).keep Kq5
  refine o_cast X hx hZ hB hown (W 93 rfl) eT (Ins.of_exa f15 (W 178 rfl)) d22_29 fun T X eT => ?_
  have z16 := own_ne1 E_x1.lt g1
  have f17 := (F_lastWrite_x1.ext E1).keep Kq5 (ninS z16 nin0)
  have f18 := (F_kept_x1.ext E1).keep Kq5 (ninS z16 nin0)
  refine own_kP (own_cvi X hx hZ hB (W := 0) hown (W 179 rfl) (W 180 rfl) (W 182 rfl) (W 181 rfl) (W 183 rfl) (W 95 rfl) (by decide) (rm_27 l Z a0 hw [] dc kd cr cc mr hG x1 lw1 r1 _ n0 (own_zO O) O f15 f17 f18) (by decide) (by decide) eT f15 hml rfl pd_17 rfl rfl rfl d22_32 (by decide) (by decide)) rfl rfl fun T X eT => ?_
  refine o_lloadN X hx hB d22_35 rfl ?_
  refine o_lcmp X hx hB d22_36 ?_
  refine o_ifYes X hx hB d22_37 (Jvm.Free.XT.ll_gt_t hq1) 65 ?_
  refine o_aloadN X hx hB d22_65 rfl rfl ?_
  exact own_retA X hx Bd.returns (hb hB d22_66) (BodyLoose.notSynchronized Bd) rfl rfl (by rw [eT]; exact ⟨b0, rfl, N, K, t5_0, t5_1, t5_2, t5_3, sz_b0⟩) (by decide) (by decide)
theorem d22_40 : decode prog_16_method_3_code 40 = .ok (.aload_n 3, 1) := by decide +kernel
theorem d22_41 : decode prog_16_method_3_code 41 = .ok (.aload_n 0, 1) := by decide +kernel
theorem d22_42 : decode prog_16_method_3_code 42 = .ok (.getfield 10, 3) := by decide +kernel
theorem d22_45 : decode prog_16_method_3_code 45 = .ok (.invokeinterface 42 1, 5) := by decide +kernel
theorem d22_50 : decode prog_16_method_3_code 50 = .ok (.checkcast 16, 3) := by decide +kernel
theorem d22_53 : decode prog_16_method_3_code 53 = .ok (.invokevirtual 45, 3) := by decide +kernel
theorem d22_56 : decode prog_16_method_3_code 56 = .ok (.invokeinterface 49 2, 5) := by decide +kernel
theorem d22_61 : decode prog_16_method_3_code 61 = .ok (.pop, 1) := by decide +kernel
theorem d22_62 : decode prog_16_method_3_code 62 = .ok (.goto (-54), 3) := by decide +kernel
theorem pd_18 : parseMethodDescriptor "()Ljava/util/List;" = some ⟨[], some (.object "java/util/List")⟩ := by decide +kernel
theorem pd_19 : parseMethodDescriptor "(Ljava/util/Collection;)Z" = some ⟨[(.object "java/util/Collection")], some .boolean⟩ := by decide +kernel
theorem ef_22_B (m : MethodId) (a : Addr) (q : Int64) : entryFrame m #[(.ref a), (.long q)] 4 = mkF m 0 #[.val (.ref a), .val (.long q), .second, .unset] [] := by first | (simp [entryFrame, mkF, argsToLocals, Value.category]; done) | rfl
abbrev own_room_22_B : Room := { frames := 5, cells := 3, slots := 16, locals := 97 }
def own_Q_22_B (Z : State) (dc : Addr) (kd : ClassId) (cr : Addr) (cc : Cell) (mr : Addr) (a : Addr) (q : Int64) (d ea : Addr) (k : ClassId) (vs : List Value) (hd tl : Int32) (x1 : Addr) (lw1 : Int64) (r1 ar1 : Addr) (sz1 : Int32) (k1 : ClassId) (v1 u1 : List Value) (x2 : Addr) (lw2 : Int64) (r2 : Addr) (h0 : Heap) (n0 : Nat) (v : Option Value) (h : Heap) (L : List Loc) : Prop := ∃ b : Addr, ∃ eb : Addr, ∃ ke0 : ClassId, v = (some (.ref b)) ∧ Fr n0 L ∧ Keep h0 h [d, ea] ∧ Exa Z h b "java/util/ArrayList" ∧ Fld Z h b "java/util/AbstractList" "modCount" "I" (.int ((0 : Int32) + (1 : Int32))) ∧ Fld Z h b "java/util/ArrayList" "elementData" "[Ljava/lang/Object;" (.ref eb) ∧ Fld Z h b "java/util/ArrayList" "size" "I" (.int ((0 : Int32) + sz1)) ∧ h0.size ≤ b ∧ own_AR Z h eb ke0 (10 : Int32) (u1 ++ List.replicate (10 - sz1.toNatClampNeg) Value.null) ∧ b ≠ eb ∧ h0.size ≤ eb ∧ Exa Z h d "java/util/ArrayDeque" ∧ Fld Z h d "java/util/ArrayDeque" "elements" "[Ljava/lang/Object;" (.ref ea) ∧ Fld Z h d "java/util/ArrayDeque" "head" "I" (.int (hd + (1 : Int32))) ∧ Fld Z h d "java/util/ArrayDeque" "tail" "I" (.int tl) ∧ own_AR Z h ea k (17 : Int32) (vs.set hd.toNatClampNeg .null) ∧ d ≠ ea
set_option maxRecDepth 65536 in
set_option maxHeartbeats 40000000 in
theorem rm_22_B (l : Launch) (Z : State) (a0 : Array Value) (hw : own_Hw a0 Z) (ws : List Jvm.Cond) (dc : Addr) (kd : ClassId) (cr : Addr) (cc : Cell) (mr : Addr) (hG : own_G Z dc kd cr cc mr) (a : Addr) (q : Int64) (d ea : Addr) (k : ClassId) (vs : List Value) (hd tl : Int32) (x1 : Addr) (lw1 : Int64) (r1 ar1 : Addr) (sz1 : Int32) (k1 : ClassId) (v1 u1 : List Value) (x2 : Addr) (lw2 : Int64) (r2 : Addr) (h0 : Heap) (n0 : Nat) (Z0 : n0 ≤ h0.size) (hO : Old Z n0 h0) (E_a : Exa Z h0 a "com/example/sandpiper/sandpiper/broker/AwaitingSync") (F_batches_a : Fld Z h0 a "com/example/sandpiper/sandpiper/broker/AwaitingSync" "batches" "Ljava/util/Deque;" (.ref d)) (E_d : Exa Z h0 d "java/util/ArrayDeque") (F_elements_d : Fld Z h0 d "java/util/ArrayDeque" "elements" "[Ljava/lang/Object;" (.ref ea)) (F_head_d : Fld Z h0 d "java/util/ArrayDeque" "head" "I" (.int hd)) (F_tail_d : Fld Z h0 d "java/util/ArrayDeque" "tail" "I" (.int tl)) (V_ea : own_AR Z h0 ea k (17 : Int32) vs) (ne_d_ea : d ≠ ea) (E_x1 : Exa Z h0 x1 "com/example/sandpiper/sandpiper/broker/AwaitingSync$Batch") (F_lastWrite_x1 : Fld Z h0 x1 "com/example/sandpiper/sandpiper/broker/AwaitingSync$Batch" "lastWrite" "J" (.long lw1)) (F_kept_x1 : Fld Z h0 x1 "com/example/sandpiper/sandpiper/broker/AwaitingSync$Batch" "kept" "Ljava/util/List;" (.ref r1)) (E_r1 : Exa Z h0 r1 "java/util/ArrayList") (F_elementData_r1 : Fld Z h0 r1 "java/util/ArrayList" "elementData" "[Ljava/lang/Object;" (.ref ar1)) (F_size_r1 : Fld Z h0 r1 "java/util/ArrayList" "size" "I" (.int sz1)) (V_ar1 : own_AR Z h0 ar1 k1 (10 : Int32) v1) (ne_ea_ar1 : ea ≠ ar1) (E_x2 : Exa Z h0 x2 "com/example/sandpiper/sandpiper/broker/AwaitingSync$Batch") (F_lastWrite_x2 : Fld Z h0 x2 "com/example/sandpiper/sandpiper/broker/AwaitingSync$Batch" "lastWrite" "J" (.long lw2)) (F_kept_x2 : Fld Z h0 x2 "com/example/sandpiper/sandpiper/broker/AwaitingSync$Batch" "kept" "Ljava/util/List;" (.ref r2)) (g_d : n0 ≤ d) (g_ea : n0 ≤ ea) (hem1 : ¬ (hd = tl)) (hhd1 : ¬ hd < 0 ∧ hd < (17 : Int32)) (hv1 : vs.getD hd.toNatClampNeg .null = .ref x1) (hq1 : ¬ (q < lw1)) (hinc1 : (hd + (1 : Int32)) < (17 : Int32)) (hn0_1 : ¬ sz1 < 0) (hn3_1 : sz1.toNatClampNeg ≤ 3) (hle_1 : (if sz1 < (10 : Int32) then sz1 else (10 : Int32)) = sz1) (hz_1 : sz1.toNatClampNeg ≤ (10 : Int32).toNatClampNeg) (hus_1 : u1 = (List.range sz1.toNatClampNeg).map fun i => v1.getD ((0 : Int32).toNatClampNeg + i) Value.null) (hI_1 : u1.length = sz1.toNatClampNeg ∧ ∀ u ∈ u1, ∃ y, u = Value.ref y ∧ Exa Z Z.heap y "java/lang/Integer") (hnz_1 : ¬ (sz1 = 0)) (hgt_1 : ((0 : Int32) - (0 : Int32)) < sz1) (hg_1 : ¬ ((10 : Int32) < ((0 : Int32) + sz1))) (hem2 : ¬ ((hd + (1 : Int32)) = tl)) (hhd2 : ¬ (hd + (1 : Int32)) < 0 ∧ (hd + (1 : Int32)) < (17 : Int32)) (hv2 : (vs.set hd.toNatClampNeg .null).getD (hd + (1 : Int32)).toNatClampNeg .null = .ref x2) (hq2 : q < lw2) :
    own_Met l (⟨"com/example/sandpiper/sandpiper/broker/AwaitingSync", "due", "(J)Ljava/util/List;"⟩ : MethodName) (Jvm.Cond.code (⟨"com/example/sandpiper/sandpiper/broker/AwaitingSync", "due", "(J)Ljava/util/List;"⟩ : MethodName) prog_16_method_3_code 4 (some (.object "java/util/List"))) ws own_room_22_B #[(.ref a), (.long q)] Z h0 (own_Q_22_B Z dc kd cr cc mr a q d ea k vs hd tl x1 lw1 r1 ar1 sz1 k1 v1 u1 x2 lw2 r2 h0 n0) own_room_22_B.cells own_room_22_B.slots := by
  refine MetFree.of_bodySF (plainFor_of_name pn_22) hisR ?_
  intro p e s m args below meth c T Bd hml0 hP hK
  obtain ⟨rfl, hZ, hh⟩ := hP
  obtain ⟨hx, hB⟩ := And.intro Bd.exec Bd.bytes
  have hml : c.maxLocals = 4 := hml0
  have hown : s.vm.findClass "com/example/sandpiper/sandpiper/broker/AwaitingSync" = some m.cls := findClass_of_methodNamed Bd.named
  have hnm := (name_of_methodNamed Bd.named Bd.method).1
  have X : Stand p l e own_room_22_B s m #[(.ref a), (.long q)] below meth c T [] 0 0 := Stand.of_body Bd
  have eT : T.heap = h0 := by rw [← hh, Bd.state]; rfl
  have W := @own_Wd a0 Z hw
  have N := Fr.nil n0
  have O := hO
  have K := Keep.refl h0 [d, ea]
  refine own_enter (ef_22_B m a q) ?_
  show own_Goes _ _ _ _ (own_P s (own_Q_22_B Z dc kd cr cc mr a q d ea k vs hd tl x1 lw1 r1 ar1 sz1 k1 v1 u1 x2 lw2 r2 h0 n0) own_room_22_B.cells own_room_22_B.slots)
  refine o_new X hx hZ hB hown (W 152 rfl) (W 1 rfl) (W 2 rfl) eT d22_0 (by decide) (by decide) fun T h1 b0 g1 X eT E1 A1 D1 => ?_
  have g_b0 := own_gn O g1
  have sz_b0 := own_gz K g1
  have K := K.ext E1
  have O := O.ext E1
  refine o_dup X hx hB d22_3 rfl ?_
  have f2 := D1 (Or.inl (W 22 rfl)) (ty := .int) (by decide)
  have f3 := D1 (Or.inl (W 25 rfl)) (ty := (.array (.object "java/lang/Object"))) (by decide)
  have f4 := D1 (Or.inl (W 45 rfl)) (ty := .int) (by decide)
  refine own_kQ (own_csp X hx hZ hB (W := 1) hown rfl (W 153 rfl) (W 4 rfl) (W 5 rfl) (W 2 rfl) (by decide) (rm_1 l Z a0 hw [] dc kd cr cc mr hG b0 (0 : Int32) (0 : Int32) _ n0 (own_zO O) O A1 f2 f3 f4 g_b0) (by decide) (by decide) eT hml rfl pd_0 rfl rfl rfl d22_4 (by decide) (by decide)) fun v T L5 hQ X => ?_
  obtain ⟨rfl, Nq5, Kq5, t5_0, t5_1, t5_2, t5_3⟩ := hQ
  have N := Fr.app N Nq5
  have K := K.trans Kq5 (allS (Or.inr sz_b0) all0)
  have O := O.keep Kq5 (allS g_b0 all0)
  refine o_astoreN X hx hB #[.val (.ref a), .val (.long q), .second, .val (.ref b0)] d22_7 rfl rfl ?_
  refine o_aloadN X hx hB d22_8 rfl rfl ?_
  have z6 := own_ne1 E_a.lt g1
  have f7 := (F_batches_a.ext E1).keep Kq5 (ninS z6 nin0)
  refine o_getF X hx hZ hB hown (W 86 rfl) Via.refl rfl f7 d22_9 fun T X eT => ?_
  have z8 := own_ne1 E_d.lt g1
  have f9 := (F_head_d.ext E1).keep Kq5 (ninS z8 nin0)
  have f10 := (F_tail_d.ext E1).keep Kq5 (ninS z8 nin0)
  have f11 := (E_d.ext E1).keep Kq5
  refine own_kP (own_ciu X hx hZ hB (W := 0) hown (W 154 rfl) (W 155 rfl) (W 156 rfl) (by decide) (by decide) (W 157 rfl) (W 158 rfl) (W 159 rfl) (W 160 rfl) (W 116 rfl) (W 161 rfl) (W 77 rfl) (by decide) (rm_23 l Z a0 hw [] dc kd cr cc mr hG d hd tl _ n0 (own_zO O) O f9 f10) (by decide) (by decide) eT f11 hml rfl pd_16 rfl rfl rfl d22_12 (by decide) (by decide)) rfl rfl fun T X eT => ?_
  refine o_ifNo X hx hB d22_17 (Jvm.Free.XT.i0_ne_f (by rw [if_neg hem1] : (if hd = tl then (1 : Int32) else (0 : Int32)) = 0)) ?_
  refine o_aloadN X hx hB d22_20 rfl rfl ?_
  refine o_getF X hx hZ hB hown (W 86 rfl) Via.refl eT f7 d22_21 fun T X eT => ?_
  have f12 := (F_elements_d.ext E1).keep Kq5 (ninS z8 nin0)
  have z13 := own_ne1 V_ea.2.2.2.lt g1
  have f14 := (V_ea.ext E1).keep Kq5 (ninS z13 nin0)
  refine own_kP (own_cif X hx hZ hB (W := 0) hown (W 162 rfl) (W 163 rfl) (W 164 rfl) (W 165 rfl) (W 166 rfl) (W 167 rfl) (W 168 rfl) (W 116 rfl) (W 169 rfl) (W 77 rfl) (by decide) (rm_24 l Z a0 hw [] dc kd cr cc mr hG d ea k vs hd tl x1 _ n0 (own_zO O) O f11 f12 f9 f10 f14 hhd1 hv1) (by decide) (by decide) eT f11 hml rfl pd_11 rfl rfl rfl d22_24 (by decide) (by decide)) rfl rfl fun T X eT => ?_
  have f15 := (E_x1.ext E1).keep Kq5
  refine o_cast X hx hZ hB hown (W 93 rfl) eT (Ins.of_exa f15 (W 178 rfl)) d22_29 fun T X eT => ?_
  have z16 := own_ne1 E_x1.lt g1
  have f17 := (F_lastWrite_x1.ext E1).keep Kq5 (ninS z16 nin0)
  have f18 := (F_kept_x1.ext E1).keep Kq5 (ninS z16 nin0)
  refine own_kP (own_cvi X hx hZ hB (W := 0) hown (W 179 rfl) (W 180 rfl) (W 182 rfl) (W 181 rfl) (W 183 rfl) (W 95 rfl) (by decide) (rm_27 l Z a0 hw [] dc kd cr cc mr hG x1 lw1 r1 _ n0 (own_zO O) O f15 f17 f18) (by decide) (by decide) eT f15 hml rfl pd_17 rfl rfl rfl d22_32 (by decide) (by decide)) rfl rfl fun T X eT => ?_
  refine o_lloadN X hx hB d22_35 rfl ?_
  refine o_lcmp X hx hB d22_36 ?_
  refine o_ifNo X hx hB d22_37 (Jvm.Free.XT.ll_gt_f hq1) ?_
  refine o_aloadN X hx hB d22_40 rfl rfl ?_
  refine o_aloadN X hx hB d22_41 rfl rfl ?_
  refine o_getF X hx hZ hB hown (W 86 rfl) Via.refl eT f7 d22_42 fun T X eT => ?_
  refine own_kQ (own_cif X hx hZ hB (W := 1) hown (W 203 rfl) (W 204 rfl) (W 205 rfl) (W 206 rfl) (W 207 rfl) (W 208 rfl) (W 209 rfl) (W 116 rfl) (W 210 rfl) (W 77 rfl) (by decide) (rm_31 l Z a0 hw [] dc kd cr cc mr hG d ea k vs hd tl x1 _ n0 (own_zO O) O f11 f12 f9 f10 f14 ne_d_ea g_d g_ea hhd1 hv1 hinc1) (by decide) (by decide) eT f11 hml rfl pd_11 rfl rfl rfl d22_45 (by decide) (by decide)) fun v T L19 hQ X => ?_
  obtain ⟨rfl, Nq19, Kq19, t19_0, t19_1, t19_2, t19_3, t19_4, t19_5⟩ := hQ
  have N := Fr.app N Nq19
  have K := K.trans Kq19 (allS (Or.inl (List.mem_of_getElem? (i := 0) rfl)) (allS (Or.inl (List.mem_of_getElem? (i := 1) rfl)) all0))
  have O := O.keep Kq19 (allS g_d (allS g_ea all0))
  have f20 := f15.keep Kq19
  refine o_cast X hx hZ hB hown (W 93 rfl) rfl (Ins.of_exa f20 (W 178 rfl)) d22_50 fun T X eT => ?_
  have f21 := ((V_ea.2.2.2.ext E1).keep Kq5).keep Kq19
  have z22 := Exa.ne f20 f21 (by decide)
  have z23 := Exa.ne f20 t19_0 (by decide)
  have f24 := f17.keep Kq19 (ninS z23 (ninS z22 nin0))
  have f25 := f18.keep Kq19 (ninS z23 (ninS z22 nin0))
  refine own_kP (own_cvi X hx hZ hB (W := 1) hown (W 216 rfl) (W 217 rfl) (W 219 rfl) (W 218 rfl) (W 220 rfl) (W 95 rfl) (by decide) (rm_33 l Z a0 hw [] dc kd cr cc mr hG x1 lw1 r1 _ n0 (own_zO O) O f20 f24 f25) (by decide) (by decide) eT f20 hml rfl pd_18 rfl rfl rfl d22_53 (by decide) (by decide)) rfl rfl fun T X eT => ?_
  have f26 := t5_0.keep Kq19
  have f27 := t5_1.keep Kq19 (ninS (Ne.symm z8) (ninS (Ne.symm z13) nin0))
  have f28 := t5_2.keep Kq19 (ninS (Ne.symm z8) (ninS (Ne.symm z13) nin0))
  have f29 := t5_3.keep Kq19 (ninS (Ne.symm z8) (ninS (Ne.symm z13) nin0))
  have f30 := ((E_r1.ext E1).keep Kq5).keep Kq19
  have z31 := own_ne1 E_r1.lt g1
  have z32 := Exa.ne f30 f21 (by decide)
  have z33 := Exa.ne f30 t19_0 (by decide)
  have f34 := ((F_elementData_r1.ext E1).keep Kq5 (ninS z31 nin0)).keep Kq19 (ninS z33 (ninS z32 nin0))
  have f35 := ((F_size_r1.ext E1).keep Kq5 (ninS z31 nin0)).keep Kq19 (ninS z33 (ninS z32 nin0))
  have z36 := own_ne1 V_ar1.2.2.2.lt g1
  have f37 := ((V_ar1.2.2.2.ext E1).keep Kq5).keep Kq19
  have z38 := Exa.ne f37 t19_0 (by decide)
  have f39 := ((V_ar1.ext E1).keep Kq5 (ninS z36 nin0)).keep Kq19 (ninS z38 (ninS (Ne.symm ne_ea_ar1) nin0))
  refine own_kQ (own_cif X hx hZ hB (W := 0) hown (W 221 rfl) (W 222 rfl) (W 223 rfl) (W 224 rfl) (W 225 rfl) (W 226 rfl) (W 227 rfl) (W 40 rfl) (W 228 rfl) (W 2 rfl) (by decide) (rm_34f l Z a0 hw [] dc kd cr cc mr hG b0 r1 (0 : Int32) ar1 sz1 k1 v1 u1 _ n0 (own_zO O) O f26 f27 f28 f29 f30 f34 f35 f39 (Ne.symm z31) g_b0 hn0_1 hn3_1 hle_1 hz_1 hus_1 hI_1 hnz_1 hgt_1 hg_1) (by decide) (by decide) eT f26 hml rfl pd_19 rfl rfl rfl d22_56 (by decide) (by decide)) fun v T L40 hQ X => ?_
  obtain ⟨be, ke, rfl, Nq40, Kq40, t40_0, t40_1, t40_2, t40_3, t40_4, t40_5, t40_6⟩ := hQ
  have g_be := Nat.le_trans (own_zO O) t40_5
  have sz_be := Nat.le_trans K.1 t40_5
  have N := Fr.app N Nq40
  have K := K.trans Kq40 (allS (Or.inr sz_b0) all0)
  have O := O.keep Kq40 (allS g_b0 all0)
  refine o_pop X hx hB d22_61 rfl ?_
  refine o_goto X hx hB d22_62 8 ?_
  refine o_aloadN X hx hB d22_8 rfl rfl ?_
  have f41 := (((E_a.ext E1).keep Kq5).keep Kq19).keep Kq40
  have f42 := f21.keep Kq40
  have z43 := Exa.ne f41 f42 (by decide)
  have f44 := t19_0.keep Kq40
  have z45 := Exa.ne f41 f44 (by decide)
  have f46 := (f7.keep Kq19 (ninS z45 (ninS z43 nin0))).keep Kq40 (ninS z6 nin0)
  refine o_getF X hx hZ hB hown (W 86 rfl) Via.refl rfl f46 d22_9 fun T X eT => ?_
  have f47 := t19_2.keep Kq40 (ninS z8 nin0)
  have f48 := t19_3.keep Kq40 (ninS z8 nin0)
  refine own_kP (own_ciu X hx hZ hB (W := 0) hown (W 154 rfl) (W 155 rfl) (W 156 rfl) (by decide) (by decide) (W 157 rfl) (W 158 rfl) (W 159 rfl) (W 160 rfl) (W 116 rfl) (W 161 rfl) (W 77 rfl) (by decide) (rm_23 l Z a0 hw [] dc kd cr cc mr hG d (hd + (1 : Int32)) tl _ n0 (own_zO O) O f47 f48) (by decide) (by decide) eT f44 hml rfl pd_16 rfl rfl rfl d22_12 (by decide) (by decide)) rfl rfl fun T X eT => ?_
  refine o_ifNo X hx hB d22_17 (Jvm.Free.XT.i0_ne_f (by rw [if_neg hem2] : (if (hd + (1 : Int32)) = tl then (1 : Int32) else (0 : Int32)) = 0)) ?_
  refine o_aloadN X hx hB d22_20 rfl rfl ?_
  refine o_getF X hx hZ hB hown (W 86 rfl) Via.refl eT f46 d22_21 fun T X eT => ?_
  have f49 := t19_1.keep Kq40 (ninS z8 nin0)
  have f50 := t19_4.keep Kq40 (ninS z13 nin0)
  refine own_kP (own_cif X hx hZ hB (W := 0) hown (W 162 rfl) (W 163 rfl) (W 164 rfl) (W 165 rfl) (W 166 rfl) (W 167 rfl) (W 168 rfl) (W 116 rfl) (W 169 rfl) (W 77 rfl) (by decide) (rm_24 l Z a0 hw [] dc kd cr cc mr hG d ea k (vs.set hd.toNatClampNeg .null) (hd + (1 : Int32)) tl x2 _ n0 (own_zO O) O f44 f49 f47 f48 f50 hhd2 hv2) (by decide) (by decide) eT f44 hml rfl pd_11 rfl rfl rfl d22_24 (by decide) (by decide)) rfl rfl fun T X eT => ?_
  have f51 := (((E_x2.ext E1).keep Kq5).keep Kq19).keep Kq40
  refine o_cast X hx hZ hB hown (W 93 rfl) eT (Ins.of_exa f51 (W 178 rfl)) d22_29 fun T X eT => ?_
  have z52 := own_ne1 E_x2.lt g1
  have z53 := Exa.ne f51 f42 (by decide)
  have z54 := Exa.ne f51 f44 (by decide)
  have f55 := (((F_lastWrite_x2.ext E1).keep Kq5 (ninS z52 nin0)).keep Kq19 (ninS z54 (ninS z53 nin0))).keep Kq40 (ninS z52 nin0)
  have f56 := (((F_kept_x2.ext E1).keep Kq5 (ninS z52 nin0)).keep Kq19 (ninS z54 (ninS z53 nin0))).keep Kq40 (ninS z52 nin0)
  refine own_kP (own_cvi X hx hZ hB (W := 0) hown (W 179 rfl) (W 180 rfl) (W 182 rfl) (W 181 rfl) (W 183 rfl) (W 95 rfl) (by decide) (rm_27 l Z a0 hw [] dc kd cr cc mr hG x2 lw2 r2 _ n0 (own_zO O) O f51 f55 f56) (by decide) (by decide) eT f51 hml rfl pd_17 rfl rfl rfl d22_32 (by decide) (by decide)) rfl rfl fun T X eT => ?_
  refine o_lloadN X hx hB d22_35 rfl ?_
  refine o_lcmp X hx hB d22_36 ?_
  refine o_ifYes X hx hB d22_37 (Jvm.Free.XT.ll_gt_t hq2) 65 ?_
  refine o_aloadN X hx hB d22_65 rfl rfl ?_
  exact own_retA X hx Bd.returns (hb hB d22_66) (BodyLoose.notSynchronized Bd) rfl rfl (by rw [eT]; exact ⟨b0, be, ke, rfl, N, K, t40_0, t40_1, t40_2, t40_3, sz_b0, t40_4, t40_6, sz_be, f44, f49, f47, f48, f50, t19_5⟩) (by decide) (by decide)
theorem ef_22_Ce (m : MethodId) (a : Addr) (q : Int64) : entryFrame m #[(.ref a), (.long q)] 4 = mkF m 0 #[.val (.ref a), .val (.long q), .second, .unset] [] := by first | (simp [entryFrame, mkF, argsToLocals, Value.category]; done) | rfl
abbrev own_room_22_Ce : Room := { frames := 5, cells := 4, slots := 19, locals := 97 }
def own_Q_22_Ce (Z : State) (dc : Addr) (kd : ClassId) (cr : Addr) (cc : Cell) (mr : Addr) (a : Addr) (q : Int64) (d ea : Addr) (k : ClassId) (vs : List Value) (hd tl : Int32) (x1 : Addr) (lw1 : Int64) (r1 ar1 : Addr) (sz1 : Int32) (k1 : ClassId) (v1 u1 : List Value) (x2 : Addr) (lw2 : Int64) (r2 : Addr) (h0 : Heap) (n0 : Nat) (v : Option Value) (h : Heap) (L : List Loc) : Prop := ∃ b : Addr, ∃ eb : Addr, ∃ ke0 : ClassId, v = (some (.ref b)) ∧ Fr n0 L ∧ Keep h0 h [d, ea] ∧ Exa Z h b "java/util/ArrayList" ∧ Fld Z h b "java/util/AbstractList" "modCount" "I" (.int (((0 : Int32) + (1 : Int32)) + (1 : Int32))) ∧ Fld Z h b "java/util/ArrayList" "elementData" "[Ljava/lang/Object;" (.ref eb) ∧ Fld Z h b "java/util/ArrayList" "size" "I" (.int ((0 : Int32) + sz1)) ∧ h0.size ≤ b ∧ own_AR Z h eb ke0 (10 : Int32) (u1 ++ List.replicate (10 - sz1.toNatClampNeg) Value.null) ∧ b ≠ eb ∧ h0.size ≤ eb ∧ Exa Z h d "java/util/ArrayDeque" ∧ Fld Z h d "java/util/ArrayDeque" "elements" "[Ljava/lang/Object;" (.ref ea) ∧ Fld Z h d "java/util/ArrayDeque" "head" "I" (.int ((hd + (1 : Int32)) + (1 : Int32))) ∧ Fld Z h d "java/util/ArrayDeque" "tail" "I" (.int tl) ∧ own_AR Z h ea k (17 : Int32) ((vs.set hd.toNatClampNeg .null).set (hd + (1 : Int32)).toNatClampNeg .null) ∧ d ≠ ea
set_option maxRecDepth 65536 in
set_option maxHeartbeats 40000000 in
theorem rm_22_Ce (l : Launch) (Z : State) (a0 : Array Value) (hw : own_Hw a0 Z) (ws : List Jvm.Cond) (dc : Addr) (kd : ClassId) (cr : Addr) (cc : Cell) (mr : Addr) (hG : own_G Z dc kd cr cc mr) (a : Addr) (q : Int64) (d ea : Addr) (k : ClassId) (vs : List Value) (hd tl : Int32) (x1 : Addr) (lw1 : Int64) (r1 ar1 : Addr) (sz1 : Int32) (k1 : ClassId) (v1 u1 : List Value) (x2 : Addr) (lw2 : Int64) (r2 : Addr) (h0 : Heap) (n0 : Nat) (Z0 : n0 ≤ h0.size) (hO : Old Z n0 h0) (E_a : Exa Z h0 a "com/example/sandpiper/sandpiper/broker/AwaitingSync") (F_batches_a : Fld Z h0 a "com/example/sandpiper/sandpiper/broker/AwaitingSync" "batches" "Ljava/util/Deque;" (.ref d)) (E_d : Exa Z h0 d "java/util/ArrayDeque") (F_elements_d : Fld Z h0 d "java/util/ArrayDeque" "elements" "[Ljava/lang/Object;" (.ref ea)) (F_head_d : Fld Z h0 d "java/util/ArrayDeque" "head" "I" (.int hd)) (F_tail_d : Fld Z h0 d "java/util/ArrayDeque" "tail" "I" (.int tl)) (V_ea : own_AR Z h0 ea k (17 : Int32) vs) (ne_d_ea : d ≠ ea) (E_x1 : Exa Z h0 x1 "com/example/sandpiper/sandpiper/broker/AwaitingSync$Batch") (F_lastWrite_x1 : Fld Z h0 x1 "com/example/sandpiper/sandpiper/broker/AwaitingSync$Batch" "lastWrite" "J" (.long lw1)) (F_kept_x1 : Fld Z h0 x1 "com/example/sandpiper/sandpiper/broker/AwaitingSync$Batch" "kept" "Ljava/util/List;" (.ref r1)) (E_r1 : Exa Z h0 r1 "java/util/ArrayList") (F_elementData_r1 : Fld Z h0 r1 "java/util/ArrayList" "elementData" "[Ljava/lang/Object;" (.ref ar1)) (F_size_r1 : Fld Z h0 r1 "java/util/ArrayList" "size" "I" (.int sz1)) (V_ar1 : own_AR Z h0 ar1 k1 (10 : Int32) v1) (ne_ea_ar1 : ea ≠ ar1) (E_x2 : Exa Z h0 x2 "com/example/sandpiper/sandpiper/broker/AwaitingSync$Batch") (F_lastWrite_x2 : Fld Z h0 x2 "com/example/sandpiper/sandpiper/broker/AwaitingSync$Batch" "lastWrite" "J" (.long lw2)) (F_kept_x2 : Fld Z h0 x2 "com/example/sandpiper/sandpiper/broker/AwaitingSync$Batch" "kept" "Ljava/util/List;" (.ref r2)) (E_r2 : Exa Z h0 r2 "java/util/ArrayList") (F_elementData_r2 : Fld Z h0 r2 "java/util/ArrayList" "elementData" "[Ljava/lang/Object;" (.ref dc)) (F_size_r2 : Fld Z h0 r2 "java/util/ArrayList" "size" "I" (.int (0 : Int32))) (ne_x1_x2 : x1 ≠ x2) (g_d : n0 ≤ d) (g_ea : n0 ≤ ea) (hem1 : ¬ (hd = tl)) (hhd1 : ¬ hd < 0 ∧ hd < (17 : Int32)) (hv1 : vs.getD hd.toNatClampNeg .null = .ref x1) (hq1 : ¬ (q < lw1)) (hinc1 : (hd + (1 : Int32)) < (17 : Int32)) (hn0_1 : ¬ sz1 < 0) (hn3_1 : sz1.toNatClampNeg ≤ 3) (hle_1 : (if sz1 < (10 : Int32) then sz1 else (10 : Int32)) = sz1) (hz_1 : sz1.toNatClampNeg ≤ (10 : Int32).toNatClampNeg) (hus_1 : u1 = (List.range sz1.toNatClampNeg).map fun i => v1.getD ((0 : Int32).toNatClampNeg + i) Value.null) (hI_1 : u1.length = sz1.toNatClampNeg ∧ ∀ u ∈ u1, ∃ y, u = Value.ref y ∧ Exa Z Z.heap y "java/lang/Integer") (hnz_1 : ¬ (sz1 = 0)) (hgt_1 : ((0 : Int32) - (0 : Int32)) < sz1) (hg_1 : ¬ ((10 : Int32) < ((0 : Int32) + sz1))) (hem2 : ¬ ((hd + (1 : Int32)) = tl)) (hhd2 : ¬ (hd + (1 : Int32)) < 0 ∧ (hd + (1 : Int32)) < (17 : Int32)) (hv2 : (vs.set hd.toNatClampNeg .null).getD (hd + (1 : Int32)).toNatClampNeg .null = .ref x2) (hq2 : ¬ (q < lw2)) (hinc2 : ((hd + (1 : Int32)) + (1 : Int32)) < (17 : Int32)) (hend : ((hd + (1 : Int32)) + (1 : Int32)) = tl) :
    own_Met l (⟨"com/example/sandpiper/sandpiper/broker/AwaitingSync", "due", "(J)Ljava/util/List;"⟩ : MethodName) (Jvm.Cond.code (⟨"com/example/sandpiper/sandpiper/broker/AwaitingSync", "due", "(J)Ljava/util/List;"⟩ : MethodName) prog_16_method_3_code 4 (some (.object "java/util/List"))) ws own_room_22_Ce #[(.ref a), (.long q)] Z h0 (own_Q_22_Ce Z dc kd cr cc mr a q d ea k vs hd tl x1 lw1 r1 ar1 sz1 k1 v1 u1 x2 lw2 r2 h0 n0) own_room_22_Ce.cells own_room_22_Ce.slots := by
  refine MetFree.of_bodySF (plainFor_of_name pn_22) hisR ?_
  intro p e s m args below meth c T Bd hml0 hP hK
  obtain ⟨rfl, hZ, hh⟩ := hP
  obtain ⟨hx, hB⟩ := And.intro Bd.exec Bd.bytes
  have hml : c.maxLocals = 4 := hml0
  have hown : s.vm.findClass "com/example/sandpiper/sandpiper/broker/AwaitingSync" = some m.cls := findClass_of_methodNamed Bd.named
  have hnm := (name_of_methodNamed Bd.named Bd.method).1
  have X : Stand p l e own_room_22_Ce s m #[(.ref a), (.long q)] below meth c T [] 0 0 := Stand.of_body Bd
  have eT : T.heap = h0 := by rw [← hh, Bd.state]; rfl
  have W := @own_Wd a0 Z hw
  have N := Fr.nil n0
  have O := hO
  have K := Keep.refl h0 [d, ea]
  refine own_enter (ef_22_Ce m a q) ?_
  show own_Goes _ _ _ _ (own_P s (own_Q_22_Ce Z dc kd cr cc mr a q d ea k vs hd tl x1 lw1 r1 ar1 sz1 k1 v1 u1 x2 lw2 r2 h0 n0) own_room_22_Ce.cells own_room_22_Ce.slots)
  refine o_new X hx hZ hB hown (W 152 rfl) (W 1 rfl) (W 2 rfl) eT d22_0 (by decide) (by decide) fun T h1 b0 g1 X eT E1 A1 D1 => ?_
  have g_b0 := own_gn O g1
  have sz_b0 := own_gz K g1
  have K := K.ext E1
  have O := O.ext E1
  refine o_dup X hx hB d22_3 rfl ?_
  have f2 := D1 (Or.inl (W 22 rfl)) (ty := .int) (by decide)
  have f3 := D1 (Or.inl (W 25 rfl)) (ty := (.array (.object "java/lang/Object"))) (by decide)
  have f4 := D1 (Or.inl (W 45 rfl)) (ty := .int) (by decide)
  refine own_kQ (own_csp X hx hZ hB (W := 1) hown rfl (W 153 rfl) (W 4 rfl) (W 5 rfl) (W 2 rfl) (by decide) (rm_1 l Z a0 hw [] dc kd cr cc mr hG b0 (0 : Int32) (0 : Int32) _ n0 (own_zO O) O A1 f2 f3 f4 g_b0) (by decide) (by decide) eT hml rfl pd_0 rfl rfl rfl d22_4 (by decide) (by decide)) fun v T L5 hQ X => ?_
  obtain ⟨rfl, Nq5, Kq5, t5_0, t5_1, t5_2, t5_3⟩ := hQ
  have N := Fr.app N Nq5
  have K := K.trans Kq5 (allS (Or.inr sz_b0) all0)
  have O := O.keep Kq5 (allS g_b0 all0)
  refine o_astoreN X hx hB #[.val (.ref a), .val (.long q), .second, .val (.ref b0)] d22_7 rfl rfl ?_
  refine o_aloadN X hx hB d22_8 rfl rfl ?_
  have z6 := own_ne1 E_a.lt g1
  have f7 := (F_batches_a.ext E1).keep Kq5 (ninS z6 nin0)
  refine o_getF X hx hZ hB hown (W 86 rfl) Via.refl rfl f7 d22_9 fun T X eT => ?_
  have z8 := own_ne1 E_d.lt g1
  have f9 := (F_head_d.ext E1).keep Kq5 (ninS z8 nin0)
  have f10 := (F_tail_d.ext E1).keep Kq5 (ninS z8 nin0)
  have f11 := (E_d.ext E1).keep Kq5
  refine own_kP (own_ciu X hx hZ hB (W := 0) hown (W 154 rfl) (W 155 rfl) (W 156 rfl) (by decide) (by decide) (W 157 rfl) (W 158 rfl) (W 159 rfl) (W 160 rfl) (W 116 rfl) (W 161 rfl) (W 77 rfl) (by decide) (rm_23 l Z a0 hw [] dc kd cr cc mr hG d hd tl _ n0 (own_zO O) O f9 f10) (by decide) (by decide) eT f11 hml rfl pd_16 rfl rfl rfl d22_12 (by decide) (by decide)) rfl rfl fun T X eT => ?_
  refine o_ifNo X hx hB d22_17 (Jvm.Free.XT.i0_ne_f (by rw [if_neg hem1] : (if hd = tl then (1 : Int32) else (0 : Int32)) = 0)) ?_
  refine o_aloadN X hx hB d22_20 rfl rfl ?_
  refine o_getF X hx hZ hB hown (W 86 rfl) Via.refl eT f7 d22_21 fun T X eT => ?_
  have f12 := (F_elements_d.ext E1).keep Kq5 (ninS z8 nin0)
  have z13 := own_ne1 V_ea.2.2.2.lt g1
  have f14 := (V_ea.ext E1).keep Kq5 (ninS z13 nin0)
  refine own_kP (own_cif X hx hZ hB (W := 0) hown (W 162 rfl) (W 163 rfl) (W 164 rfl) (W 165 rfl) (W 166 rfl) (W 167 rfl) (W 168 rfl) (W 116 rfl) (W 169 rfl) (W 77 rfl) (by decide) (rm_24 l Z a0 hw [] dc kd cr cc mr hG d ea k vs hd tl x1 _ n0 (own_zO O) O f11 f12 f9 f10 f14 hhd1 hv1) (by decide) (by decide) eT f11 hml rfl pd_11 rfl rfl rfl d22_24 (by decide) (by decide)) rfl rfl fun T X eT => ?_
  have f15 := (E_x1.ext E1).keep Kq5
  refine o_cast X hx hZ hB hown (W 93 rfl) eT (Ins.of_exa f15 (W 178 rfl)) d22_29 fun T X eT => ?_
  have z16 := own_ne1 E_x1.lt g1
  have f17 := (F_lastWrite_x1.ext E1).keep Kq5 (ninS z16 nin0)
  have f18 := (F_kept_x1.ext E1).keep Kq5 (ninS z16 nin0)
  refine own_kP (own_cvi X hx hZ hB (W := 0) hown (W 179 rfl) (W 180 rfl) (W 182 rfl) (W 181 rfl) (W 183 rfl) (W 95 rfl) (by decide) (rm_27 l Z a0 hw [] dc kd cr cc mr hG x1 lw1 r1 _ n0 (own_zO O) O f15 f17 f18) (by decide) (by decide) eT f15 hml rfl pd_17 rfl rfl rfl d22_32 (by decide) (by decide)) rfl rfl fun T X eT => ?_
  refine o_lloadN X hx hB d22_35 rfl ?_
  refine o_lcmp X hx hB d22_36 ?_
  refine o_ifNo X hx hB d22_37 (Jvm.Free.XT.ll_gt_f hq1) ?_
  refine o_aloadN X hx hB d22_40 rfl rfl ?_
  refine o_aloadN X hx hB d22_41 rfl rfl ?_
  refine o_getF X hx hZ hB hown (W 86 rfl) Via.refl eT f7 d22_42 fun T X eT => ?_
  refine own_kQ (own_cif X hx hZ hB (W := 1) hown (W 203 rfl) (W 204 rfl) (W 205 rfl) (W 206 rfl) (W 207 rfl) (W 208 rfl) (W 209 rfl) (W 116 rfl) (W 210 rfl) (W 77 rfl) (by decide) (rm_31 l Z a0 hw [] dc kd cr cc mr hG d ea k vs hd tl x1 _ n0 (own_zO O) O f11 f12 f9 f10 f14 ne_d_ea g_d g_ea hhd1 hv1 hinc1) (by decide) (by decide) eT f11 hml rfl pd_11 rfl rfl rfl d22_45 (by decide) (by decide)) fun v T L19 hQ X => ?_
  obtain ⟨rfl, Nq19, Kq19, t19_0, t19_1, t19_2, t19_3, t19_4, t19_5⟩ := hQ
  have N := Fr.app N Nq19
  have K := K.trans Kq19 (allS (Or.inl (List.mem_of_getElem? (i := 0) rfl)) (allS (Or.inl (List.mem_of_getElem? (i := 1) rfl)) all0))
  have O := O.keep Kq19 (allS g_d (allS g_ea all0))
  have f20 := f15.keep Kq19
  refine o_cast X hx hZ hB hown (W 93 rfl) rfl (Ins.of_exa f20 (W 178 rfl)) d22_50 fun T X eT => ?_
  have f21 := ((V_ea.2.2.2.ext E1).keep Kq5).keep Kq19
  have z22 := Exa.ne f20 f21 (by decide)
  have z23 := Exa.ne f20 t19_0 (by decide)
  have f24 := f17.keep Kq19 (ninS z23 (ninS z22 nin0))
  have f25 := f18.keep Kq19 (ninS z23 (ninS z22 nin0))
  refine own_kP (own_cvi X hx hZ hB (W := 1) hown (W 216 rfl) (W 217 rfl) (W 219 rfl) (W 218 rfl) (W 220 rfl) (W 95 rfl) (by decide) (rm_33 l Z a0 hw [] dc kd cr cc mr hG x1 lw1 r1 _ n0 (own_zO O) O f20 f24 f25) (by decide) (by decide) eT f20 hml rfl pd_18 rfl rfl rfl d22_53 (by decide) (by decide)) rfl rfl fun T X eT => ?_
  have f26 := t5_0.keep Kq19
  have f27 := t5_1.keep Kq19 (ninS (Ne.symm z8) (ninS (Ne.symm z13) nin0))
  have f28 := t5_2.keep Kq19 (ninS (Ne.symm z8) (ninS (Ne.symm z13) nin0))
  have f29 := t5_3.keep Kq19 (ninS (Ne.symm z8) (ninS (Ne.symm z13) nin0))
  have f30 := ((E_r1.ext E1).keep Kq5).keep Kq19
  have z31 := own_ne1 E_r1.lt g1
  have z32 := Exa.ne f30 f21 (by decide)
  have z33 := Exa.ne f30 t19_0 (by decide)
  have f34 := ((F_elementData_r1.ext E1).keep Kq5 (ninS z31 nin0)).keep Kq19 (ninS z33 (ninS z32 nin0))
  have f35 := ((F_size_r1.ext E1).keep Kq5 (ninS z31 nin0)).keep Kq19 (ninS z33 (ninS z32 nin0))
  have z36 := own_ne1 V_ar1.2.2.2.lt g1
  have f37 := ((V_ar1.2.2.2.ext E1).keep Kq5).keep Kq19
  have z38 := Exa.ne f37 t19_0 (by decide)
  have f39 := ((V_ar1.ext E1).keep Kq5 (ninS z36 nin0)).keep Kq19 (ninS z38 (ninS (Ne.symm ne_ea_ar1) nin0))
  refine own_kQ (own_cif X hx hZ hB (W := 0) hown (W 221 rfl) (W 222 rfl) (W 223 rfl) (W 224 rfl) (W 225 rfl) (W 226 rfl) (W 227 rfl) (W 40 rfl) (W 228 rfl) (W 2 rfl) (by decide) (rm_34f l Z a0 hw [] dc kd cr cc mr hG b0 r1 (0 : Int32) ar1 sz1 k1 v1 u1 _ n0 (own_zO O) O f26 f27 f28 f29 f30 f34 f35 f39 (Ne.symm z31) g_b0 hn0_1 hn3_1 hle_1 hz_1 hus_1 hI_1 hnz_1 hgt_1 hg_1) (by decide) (by decide) eT f26 hml rfl pd_19 rfl rfl rfl d22_56 (by decide) (by decide)) fun v T L40 hQ X => ?_
  obtain ⟨be, ke, rfl, Nq40, Kq40, t40_0, t40_1, t40_2, t40_3, t40_4, t40_5, t40_6⟩ := hQ
  have g_be := Nat.le_trans (own_zO O) t40_5
  have sz_be := Nat.le_trans K.1 t40_5
  have N := Fr.app N Nq40
  have K := K.trans Kq40 (allS (Or.inr sz_b0) all0)
  have O := O.keep Kq40 (allS g_b0 all0)
  refine o_pop X hx hB d22_61 rfl ?_
  refine o_goto X hx hB d22_62 8 ?_
  refine o_aloadN X hx hB d22_8 rfl rfl ?_
  have f41 := (((E_a.ext E1).keep Kq5).keep Kq19).keep Kq40
  have f42 := f21.keep Kq40
  have z43 := Exa.ne f41 f42 (by decide)
  have f44 := t19_0.keep Kq40
  have z45 := Exa.ne f41 f44 (by decide)
  have f46 := (f7.keep Kq19 (ninS z45 (ninS z43 nin0))).keep Kq40 (ninS z6 nin0)
  refine o_getF X hx hZ hB hown (W 86 rfl) Via.refl rfl f46 d22_9 fun T X eT => ?_
  have f47 := t19_2.keep Kq40 (ninS z8 nin0)
  have f48 := t19_3.keep Kq40 (ninS z8 nin0)
  refine own_kP (own_ciu X hx hZ hB (W := 0) hown (W 154 rfl) (W 155 rfl) (W 156 rfl) (by decide) (by decide) (W 157 rfl) (W 158 rfl) (W 159 rfl) (W 160 rfl) (W 116 rfl) (W 161 rfl) (W 77 rfl) (by decide) (rm_23 l Z a0 hw [] dc kd cr cc mr hG d (hd + (1 : Int32)) tl _ n0 (own_zO O) O f47 f48) (by decide) (by decide) eT f44 hml rfl pd_16 rfl rfl rfl d22_12 (by decide) (by decide)) rfl rfl fun T X eT => ?_
  refine o_ifNo X hx hB d22_17 (Jvm.Free.XT.i0_ne_f (by rw [if_neg hem2] : (if (hd + (1 : Int32)) = tl then (1 : Int32) else (0 : Int32)) = 0)) ?_
  refine o_aloadN X hx hB d22_20 rfl rfl ?_
  refine o_getF X hx hZ hB hown (W 86 rfl) Via.refl eT f46 d22_21 fun T X eT => ?_
  have f49 := t19_1.keep Kq40 (ninS z8 nin0)
  have f50 := t19_4.keep Kq40 (ninS z13 nin0)
  refine own_kP (own_cif X hx hZ hB (W := 0) hown (W 162 rfl) (W 163 rfl) (W 164 rfl) (W 165 rfl) (W 166 rfl) (W 167 rfl) (W 168 rfl) (W 116 rfl) (W 169 rfl) (W 77 rfl) (by decide) (rm_24 l Z a0 hw [] dc kd cr cc mr hG d ea k (vs.set hd.toNatClampNeg .null) (hd + (1 : Int32)) tl x2 _ n0 (own_zO O) O f44 f49 f47 f48 f50 hhd2 hv2) (by decide) (by decide) eT f44 hml rfl pd_11 rfl rfl rfl d22_24 (by decide) (by decide)) rfl rfl fun T X eT => ?_
  have f51 := (((E_x2.ext E1).keep Kq5).keep Kq19).keep Kq40
  refine o_cast X hx hZ hB hown (W 93 rfl) eT (Ins.of_exa f51 (W 178 rfl)) d22_29 fun T X eT => ?_
  have z52 := own_ne1 E_x2.lt g1
  have z53 := Exa.ne f51 f42 (by decide)
  have z54 := Exa.ne f51 f44 (by decide)
  have f55 := (((F_lastWrite_x2.ext E1).keep Kq5 (ninS z52 nin0)).keep Kq19 (ninS z54 (ninS z53 nin0))).keep Kq40 (ninS z52 nin0)
  have f56 := (((F_kept_x2.ext E1).keep Kq5 (ninS z52 nin0)).keep Kq19 (ninS z54 (ninS z53 nin0))).keep Kq40 (ninS z52 nin0)
  refine own_kP (own_cvi X hx hZ hB (W := 0) hown (W 179 rfl) (W 180 rfl) (W 182 rfl) (W 181 rfl) (W 183 rfl) (W 95 rfl) (by decide) (rm_27 l Z a0 hw [] dc kd cr cc mr hG x2 lw2 r2 _ n0 (own_zO O) O f51 f55 f56) (by decide) (by decide) eT f51 hml rfl pd_17 rfl rfl rfl d22_32 (by decide) (by decide)) rfl rfl fun T X eT => ?_
  refine o_lloadN X hx hB d22_35 rfl ?_
  refine o_lcmp X hx hB d22_36 ?_
  refine o_ifNo X hx hB d22_37 (Jvm.Free.XT.ll_gt_f hq2) ?_
  refine o_aloadN X hx hB d22_40 rfl rfl ?_
  refine o_aloadN X hx hB d22_41 rfl rfl ?_
  refine o_getF X hx hZ hB hown (W 86 rfl) Via.refl eT f46 d22_42 fun T X eT => ?_
  refine own_kQ (own_cif X hx hZ hB (W := 1) hown (W 203 rfl) (W 204 rfl) (W 205 rfl) (W 206 rfl) (W 207 rfl) (W 208 rfl) (W 209 rfl) (W 116 rfl) (W 210 rfl) (W 77 rfl) (by decide) (rm_31 l Z a0 hw [] dc kd cr cc mr hG d ea k (vs.set hd.toNatClampNeg .null) (hd + (1 : Int32)) tl x2 _ n0 (own_zO O) O f44 f49 f47 f48 f50 t19_5 g_d g_ea hhd2 hv2 hinc2) (by decide) (by decide) eT f44 hml rfl pd_11 rfl rfl rfl d22_45 (by decide) (by decide)) fun v T L57 hQ X => ?_
  obtain ⟨rfl, Nq57, Kq57, t57_0, t57_1, t57_2, t57_3, t57_4, t57_5⟩ := hQ
  have N := Fr.app N Nq57
  have K := K.trans Kq57 (allS (Or.inl (List.mem_of_getElem? (i := 0) rfl)) (allS (Or.inl (List.mem_of_getElem? (i := 1) rfl)) all0))
  have O := O.keep Kq57 (allS g_d (allS g_ea all0))
  have f58 := f51.keep Kq57
  refine o_cast X hx hZ hB hown (W 93 rfl) rfl (Ins.of_exa f58 (W 178 rfl)) d22_50 fun T X eT => ?_
  have f59 := f55.keep Kq57 (ninS z54 (ninS z53 nin0))
  have f60 := f56.keep Kq57 (ninS z54 (ninS z53 nin0))
  refine own_kP (own_cvi X hx hZ hB (W := 1) hown (W 216 rfl) (W 217 rfl) (W 219 rfl) (W 218 rfl) (W 220 rfl) (W 95 rfl) (by decide) (rm_33 l Z a0 hw [] dc kd cr cc mr hG x2 lw2 r2 _ n0 (own_zO O) O f58 f59 f60) (by decide) (by decide) eT f58 hml rfl pd_18 rfl rfl rfl d22_53 (by decide) (by decide)) rfl rfl fun T X eT => ?_
  have f61 := t40_0.keep Kq57
  have f62 := t40_1.keep Kq57 (ninS (Ne.symm z8) (ninS (Ne.symm z13) nin0))
  have f63 := t40_2.keep Kq57 (ninS (Ne.symm z8) (ninS (Ne.symm z13) nin0))
  have f64 := t40_3.keep Kq57 (ninS (Ne.symm z8) (ninS (Ne.symm z13) nin0))
  have f65 := ((((E_r2.ext E1).keep Kq5).keep Kq19).keep Kq40).keep Kq57
  have z66 := own_ne1 E_r2.lt g1
  have f67 := f42.keep Kq57
  have z68 := Exa.ne f65 f67 (by decide)
  have z69 := Exa.ne f65 t57_0 (by decide)
  have f70 := ((((F_elementData_r2.ext E1).keep Kq5 (ninS z66 nin0)).keep Kq19 (ninS z69 (ninS z68 nin0))).keep Kq40 (ninS z66 nin0)).keep Kq57 (ninS z69 (ninS z68 nin0))
  have f71 := ((((F_size_r2.ext E1).keep Kq5 (ninS z66 nin0)).keep Kq19 (ninS z69 (ninS z68 nin0))).keep Kq40 (ninS z66 nin0)).keep Kq57 (ninS z69 (ninS z68 nin0))
  refine own_kQ (own_cif X hx hZ hB (W := 0) hown (W 221 rfl) (W 222 rfl) (W 223 rfl) (W 224 rfl) (W 225 rfl) (W 226 rfl) (W 227 rfl) (W 40 rfl) (W 228 rfl) (W 2 rfl) (by decide) (rm_34e l Z a0 hw [] dc kd cr cc mr hG b0 r2 be ((0 : Int32) + sz1) ((0 : Int32) + (1 : Int32)) _ n0 (own_zO O) O f61 f62 f63 f64 f65 f70 f71 (Ne.symm z66) g_b0) (by decide) (by decide) eT f61 hml rfl pd_19 rfl rfl rfl d22_56 (by decide) (by decide)) fun v T L72 hQ X => ?_
  obtain ⟨rfl, Nq72, Kq72, t72_0, t72_1, t72_2, t72_3⟩ := hQ
  have N := Fr.app N Nq72
  have K := K.trans Kq72 (allS (Or.inr sz_b0) all0)
  have O := O.keep Kq72 (allS g_b0 all0)
  refine o_pop X hx hB d22_61 rfl ?_
  refine o_goto X hx hB d22_62 8 ?_
  refine o_aloadN X hx hB d22_8 rfl rfl ?_
  have f73 := (f46.keep Kq57 (ninS z45 (ninS z43 nin0))).keep Kq72 (ninS z6 nin0)
  refine o_getF X hx hZ hB hown (W 86 rfl) Via.refl rfl f73 d22_9 fun T X eT => ?_
  have f74 := t57_2.keep Kq72 (ninS z8 nin0)
  have f75 := t57_3.keep Kq72 (ninS z8 nin0)
  have f76 := t57_0.keep Kq72
  refine own_kP (own_ciu X hx hZ hB (W := 0) hown (W 154 rfl) (W 155 rfl) (W 156 rfl) (by decide) (by decide) (W 157 rfl) (W 158 rfl) (W 159 rfl) (W 160 rfl) (W 116 rfl) (W 161 rfl) (W 77 rfl) (by decide) (rm_23 l Z a0 hw [] dc kd cr cc mr hG d ((hd + (1 : Int32)) + (1 : Int32)) tl _ n0 (own_zO O) O f74 f75) (by decide) (by decide) eT f76 hml rfl pd_16 rfl rfl rfl d22_12 (by decide) (by decide)) rfl rfl fun T X eT => ?_
  refine o_ifYes X hx hB d22_17 (Jvm.Free.XT.i0_ne_t (by rw [if_pos hend]; decide : ¬ ((if ((hd + (1 : Int32)) + (1 : Int32)) = tl then (1 : Int32) else (0 : Int32)) = 0))) 65 ?_
  refine o_aloadN X hx hB d22_65 rfl rfl ?_
  have z77 := own_ne2 f21.lt t40_5
  have z78 := own_ne2 t19_0.lt t40_5
  have f79 := (t40_4.keep Kq57 (ninS (Ne.symm z78) (ninS (Ne.symm z77) nin0))).keep Kq72 (ninS (Ne.symm t40_6) nin0)
  have f80 := t57_1.keep Kq72 (ninS z8 nin0)
  have f81 := t57_4.keep Kq72 (ninS z13 nin0)
  exact own_retA X hx Bd.returns (hb hB d22_66) (BodyLoose.notSynchronized Bd) rfl rfl (by rw [eT]; exact ⟨b0, be, ke, rfl, N, K, t72_0, t72_1, t72_2, t72_3, sz_b0, f79, t40_6, sz_be, f76, f80, f74, f75, f81, t57_5⟩) (by decide) (by decide)
theorem ef_22_Cr (m : MethodId) (a : Addr) (q : Int64) : entryFrame m #[(.ref a), (.long q)] 4 = mkF m 0 #[.val (.ref a), .val (.long q), .second, .unset] [] := by first | (simp [entryFrame, mkF, argsToLocals, Value.category]; done) | rfl
abbrev own_room_22_Cr : Room := { frames := 5, cells := 4, slots := 19, locals := 97 }
def own_Q_22_Cr (Z : State) (dc : Addr) (kd : ClassId) (cr : Addr) (cc : Cell) (mr : Addr) (a : Addr) (q : Int64) (d ea : Addr) (k : ClassId) (vs : List Value) (hd tl : Int32) (x1 : Addr) (lw1 : Int64) (r1 ar1 : Addr) (sz1 : Int32) (k1 : ClassId) (v1 u1 : List Value) (x2 : Addr) (lw2 : Int64) (r2 ar2 : Addr) (sz2 : Int32) (k2 : ClassId) (v2 u2 : List Value) (h0 : Heap) (n0 : Nat) (v : Option Value) (h : Heap) (L : List Loc) : Prop := ∃ b : Addr, ∃ eb : Addr, ∃ ke0 : ClassId, v = (some (.ref b)) ∧ Fr n0 L ∧ Keep h0 h [d, ea] ∧ Exa Z h b "java/util/ArrayList" ∧ Fld Z h b "java/util/AbstractList" "modCount" "I" (.int (((0 : Int32) + (1 : Int32)) + (1 : Int32))) ∧ Fld Z h b "java/util/ArrayList" "elementData" "[Ljava/lang/Object;" (.ref eb) ∧ Fld Z h b "java/util/ArrayList" "size" "I" (.int (((0 : Int32) + sz1) + sz2)) ∧ h0.size ≤ b ∧ own_AR Z h eb ke0 (10 : Int32) ((u1 ++ List.replicate (10 - sz1.toNatClampNeg) Value.null).take ((0 : Int32) + sz1).toNatClampNeg ++ u2 ++ (u1 ++ List.replicate (10 - sz1.toNatClampNeg) Value.null).drop (((0 : Int32) + sz1).toNatClampNeg + sz2.toNatClampNeg)) ∧ b ≠ eb ∧ h0.size ≤ eb ∧ Exa Z h d "java/util/ArrayDeque" ∧ Fld Z h d "java/util/ArrayDeque" "elements" "[Ljava/lang/Object;" (.ref ea) ∧ Fld Z h d "java/util/ArrayDeque" "head" "I" (.int ((hd + (1 : Int32)) + (1 : Int32))) ∧ Fld Z h d "java/util/ArrayDeque" "tail" "I" (.int tl) ∧ own_AR Z h ea k (17 : Int32) ((vs.set hd.toNatClampNeg .null).set (hd + (1 : Int32)).toNatClampNeg .null) ∧ d ≠ ea
set_option maxRecDepth 65536 in
set_option maxHeartbeats 40000000 in
theorem rm_22_Cr (l : Launch) (Z : State) (a0 : Array Value) (hw : own_Hw a0 Z) (ws : List Jvm.Cond) (dc : Addr) (kd : ClassId) (cr : Addr) (cc : Cell) (mr : Addr) (hG : own_G Z dc kd cr cc mr) (a : Addr) (q : Int64) (d ea : Addr) (k : ClassId) (vs : List Value) (hd tl : Int32) (x1 : Addr) (lw1 : Int64) (r1 ar1 : Addr) (sz1 : Int32) (k1 : ClassId) (v1 u1 : List Value) (x2 : Addr) (lw2 : Int64) (r2 ar2 : Addr) (sz2 : Int32) (k2 : ClassId) (v2 u2 : List Value) (h0 : Heap) (n0 : Nat) (Z0 : n0 ≤ h0.size) (hO : Old Z n0 h0) (E_a : Exa Z h0 a "com/example/sandpiper/sandpiper/broker/AwaitingSync") (F_batches_a : Fld Z h0 a "com/example/sandpiper/sandpiper/broker/AwaitingSync" "batches" "Ljava/util/Deque;" (.ref d)) (E_d : Exa Z h0 d "java/util/ArrayDeque") (F_elements_d : Fld Z h0 d "java/util/ArrayDeque" "elements" "[Ljava/lang/Object;" (.ref ea)) (F_head_d : Fld Z h0 d "java/util/ArrayDeque" "head" "I" (.int hd)) (F_tail_d : Fld Z h0 d "java/util/ArrayDeque" "tail" "I" (.int tl)) (V_ea : own_AR Z h0 ea k (17 : Int32) vs) (ne_d_ea : d ≠ ea) (E_x1 : Exa Z h0 x1 "com/example/sandpiper/sandpiper/broker/AwaitingSync$Batch") (F_lastWrite_x1 : Fld Z h0 x1 "com/example/sandpiper/sandpiper/broker/AwaitingSync$Batch" "lastWrite" "J" (.long lw1)) (F_kept_x1 : Fld Z h0 x1 "com/example/sandpiper/sandpiper/broker/AwaitingSync$Batch" "kept" "Ljava/util/List;" (.ref r1)) (E_r1 : Exa Z h0 r1 "java/util/ArrayList") (F_elementData_r1 : Fld Z h0 r1 "java/util/ArrayList" "elementData" "[Ljava/lang/Object;" (.ref ar1)) (F_size_r1 : Fld Z h0 r1 "java/util/ArrayList" "size" "I" (.int sz1)) (V_ar1 : own_AR Z h0 ar1 k1 (10 : Int32) v1) (ne_ea_ar1 : ea ≠ ar1) (E_x2 : Exa Z h0 x2 "com/example/sandpiper/sandpiper/broker/AwaitingSync$Batch") (F_lastWrite_x2 : Fld Z h0 x2 "com/example/sandpiper/sandpiper/broker/AwaitingSync$Batch" "lastWrite" "J" (.long lw2)) (F_kept_x2 : Fld Z h0 x2 "com/example/sandpiper/sandpiper/broker/AwaitingSync$Batch" "kept" "Ljava/util/List;" (.ref r2)) (E_r2 : Exa Z h0 r2 "java/util/ArrayList") (F_elementData_r2 : Fld Z h0 r2 "java/util/ArrayList" "elementData" "[Ljava/lang/Object;" (.ref ar2)) (F_size_r2 : Fld Z h0 r2 "java/util/ArrayList" "size" "I" (.int sz2)) (V_ar2 : own_AR Z h0 ar2 k2 (10 : Int32) v2) (ne_ea_ar2 : ea ≠ ar2) (ne_x1_x2 : x1 ≠ x2) (g_d : n0 ≤ d) (g_ea : n0 ≤ ea) (hem1 : ¬ (hd = tl)) (hhd1 : ¬ hd < 0 ∧ hd < (17 : Int32)) (hv1 : vs.getD hd.toNatClampNeg .null = .ref x1) (hq1 : ¬ (q < lw1)) (hinc1 : (hd + (1 : Int32)) < (17 : Int32)) (hn0_1 : ¬ sz1 < 0) (hn3_1 : sz1.toNatClampNeg ≤ 3) (hle_1 : (if sz1 < (10 : Int32) then sz1 else (10 : Int32)) = sz1) (hz_1 : sz1.toNatClampNeg ≤ (10 : Int32).toNatClampNeg) (hus_1 : u1 = (List.range sz1.toNatClampNeg).map fun i => v1.getD ((0 : Int32).toNatClampNeg + i) Value.null) (hI_1 : u1.length = sz1.toNatClampNeg ∧ ∀ u ∈ u1, ∃ y, u = Value.ref y ∧ Exa Z Z.heap y "java/lang/Integer") (hnz_1 : ¬ (sz1 = 0)) (hgt_1 : ((0 : Int32) - (0 : Int32)) < sz1) (hg_1 : ¬ ((10 : Int32) < ((0 : Int32) + sz1))) (hem2 : ¬ ((hd + (1 : Int32)) = tl)) (hhd2 : ¬ (hd + (1 : Int32)) < 0 ∧ (hd + (1 : Int32)) < (17 : Int32)) (hv2 : (vs.set hd.toNatClampNeg .null).getD (hd + (1 : Int32)).toNatClampNeg .null = .ref x2) (hq2 : ¬ (q < lw2)) (hinc2 : ((hd + (1 : Int32)) + (1 : Int32)) < (17 : Int32)) (hn0_2 : ¬ sz2 < 0) (hn3_2 : sz2.toNatClampNeg ≤ 3) (hle_2 : (if sz2 < (10 : Int32) then sz2 else (10 : Int32)) = sz2) (hz_2 : sz2.toNatClampNeg ≤ (10 : Int32).toNatClampNeg) (hus_2 : u2 = (List.range sz2.toNatClampNeg).map fun i => v2.getD ((0 : Int32).toNatClampNeg + i) Value.null) (hI_2 : u2.length = sz2.toNatClampNeg ∧ ∀ u ∈ u2, ∃ y, u = Value.ref y ∧ Exa Z Z.heap y "java/lang/Integer") (hnz_2 : ¬ (sz2 = 0)) (hgt_2 : ¬ (((10 : Int32) - ((0 : Int32) + sz1)) < sz2)) (hi0_2 : ¬ ((0 : Int32) + sz1) < 0) (hin_2 : ((0 : Int32) + sz1).toNatClampNeg + sz2.toNatClampNeg ≤ (10 : Int32).toNatClampNeg) (hend : ((hd + (1 : Int32)) + (1 : Int32)) = tl) :
    own_Met l (⟨"com/example/sandpiper/sandpiper/broker/AwaitingSync", "due", "(J)Ljava/util/List;"⟩ : MethodName) (Jvm.Cond.code (⟨"com/example/sandpiper/sandpiper/broker/AwaitingSync", "due", "(J)Ljava/util/List;"⟩ : MethodName) prog_16_method_3_code 4 (some (.object "java/util/List"))) ws own_room_22_Cr #[(.ref a), (.long q)] Z h0 (own_Q_22_Cr Z dc kd cr cc mr a q d ea k vs hd tl x1 lw1 r1 ar1 sz1 k1 v1 u1 x2 lw2 r2 ar2 sz2 k2 v2 u2 h0 n0) own_room_22_Cr.cells own_room_22_Cr.slots := by
  refine MetFree.of_bodySF (plainFor_of_name pn_22) hisR ?_
  intro p e s m args below meth c T Bd hml0 hP hK
  obtain ⟨rfl, hZ, hh⟩ := hP
  obtain ⟨hx, hB⟩ := And.intro Bd.exec Bd.bytes
  have hml : c.maxLocals = 4 := hml0
  have hown : s.vm.findClass "com/example/sandpiper/sandpiper/broker/AwaitingSync" = some m.cls := findClass_of_methodNamed Bd.named
  have hnm := (name_of_methodNamed Bd.named Bd.method).1
  have X : Stand p l e own_room_22_Cr s m #[(.ref a), (.long q)] below meth c T [] 0 0 := Stand.of_body Bd
  have eT : T.heap = h0 := by rw [← hh, Bd.state]; rfl
  have W := @own_Wd a0 Z hw
  have N := Fr.nil n0
  have O := hO
  have K := Keep.refl h0 [d, ea]
  refine own_enter (ef_22_Cr m a q) ?_
  show own_Goes _ _ _ _ (own_P s (own_Q_22_Cr Z dc kd cr cc mr a q d ea k vs hd tl x1 lw1 r1 ar1 sz1 k1 v1 u1 x2 lw2 r2 ar2 sz2 k2 v2 u2 h0 n0) own_room_22_Cr.cells own_room_22_Cr.slots)
  refine o_new X hx hZ hB hown (W 152 rfl) (W 1 rfl) (W 2 rfl) eT d22_0 (by decide) (by decide) fun T h1 b0 g1 X eT E1 A1 D1 => ?_
  have g_b0 := own_gn O g1
  have sz_b0 := own_gz K g1
  have K := K.ext E1
  have O := O.ext E1
  refine o_dup X hx hB d22_3 rfl ?_
  have f2 := D1 (Or.inl (W 22 rfl)) (ty := .int) (by decide)
  have f3 := D1 (Or.inl (W 25 rfl)) (ty := (.array (.object "java/lang/Object"))) (by decide)
  have f4 := D1 (Or.inl (W 45 rfl)) (ty := .int) (by decide)
  refine own_kQ (own_csp X hx hZ hB (W := 1) hown rfl (W 153 rfl) (W 4 rfl) (W 5 rfl) (W 2 rfl) (by decide) (rm_1 l Z a0 hw [] dc kd cr cc mr hG b0 (0 : Int32) (0 : Int32) _ n0 (own_zO O) O A1 f2 f3 f4 g_b0) (by decide) (by decide) eT hml rfl pd_0 rfl rfl rfl d22_4 (by decide) (by decide)) fun v T L5 hQ X => ?_
  obtain ⟨rfl, Nq5, Kq5, t5_0, t5_1, t5_2, t5_3⟩ := hQ
  have N := Fr.app N Nq5
  have K := K.trans Kq5 (allS (Or.inr sz_b0) all0)
  have O := O.keep Kq5 (allS g_b0 all0)
  refine o_astoreN X hx hB #[.val (.ref a), .val (.long q), .second, .val (.ref b0)] d22_7 rfl rfl ?_
  refine o_aloadN X hx hB d22_8 rfl rfl ?_
  have z6 := own_ne1 E_a.lt g1
  have f7 := (F_batches_a.ext E1).keep Kq5 (ninS z6 nin0)
  refine o_getF X hx hZ hB hown (W 86 rfl) Via.refl rfl f7 d22_9 fun T X eT => ?_
  have z8 := own_ne1 E_d.lt g1
  have f9 := (F_head_d.ext E1).keep Kq5 (ninS z8 nin0)
  have f10 := (F_tail_d.ext E1).keep Kq5 (ninS z8 nin0)
  have f11 := (E_d.ext E1).keep Kq5
  refine own_kP (own_ciu X hx hZ hB (W := 0) hown (W 154 rfl) (W 155 rfl) (W 156 rfl) (by decide) (by decide) (W 157 rfl) (W 158 rfl) (W 159 rfl) (W 160 rfl) (W 116 rfl) (W 161 rfl) (W 77 rfl) (by decide) (rm_23 l Z a0 hw [] dc kd cr cc mr hG d hd tl _ n0 (own_zO O) O f9 f10) (by decide) (by decide) eT f11 hml rfl pd_16 rfl rfl rfl d22_12 (by decide) (by decide)) rfl rfl fun T X eT => ?_
  refine o_ifNo X hx hB d22_17 (Jvm.Free.XT.i0_ne_f (by rw [if_neg hem1] : (if hd = tl then (1 : Int32) else (0 : Int32)) = 0)) ?_
  refine o_aloadN X hx hB d22_20 rfl rfl ?_
  refine o_getF X hx hZ hB hown (W 86 rfl) Via.refl eT f7 d22_21 fun T X eT => ?_
  have f12 := (F_elements_d.ext E1).keep Kq5 (ninS z8 nin0)
  have z13 := own_ne1 V_ea.2.2.2.lt g1
  have f14 := (V_ea.ext E1).keep Kq5 (ninS z13 nin0)
  refine own_kP (own_cif X hx hZ hB (W := 0) hown (W 162 rfl) (W 163 rfl) (W 164 rfl) (W 165 rfl) (W 166 rfl) (W 167 rfl) (W 168 rfl) (W 116 rfl) (W 169 rfl) (W 77 rfl) (by decide) (rm_24 l Z a0 hw [] dc kd cr cc mr hG d ea k vs hd tl x1 _ n0 (own_zO O) O f11 f12 f9 f10 f14 hhd1 hv1) (by decide) (by decide) eT f11 hml rfl pd_11 rfl rfl rfl d22_24 (by decide) (by decide)) rfl rfl fun T X eT => ?_
  have f15 := (E_x1.ext E1).keep Kq5
  refine o_cast X hx hZ hB hown (W 93 rfl) eT (Ins.of_exa f15 (W 178 rfl)) d22_29 fun T X eT => ?_
  have z16 := own_ne1 E_x1.lt g1
  have f17 := (F_lastWrite_x1.ext E1).keep Kq5 (ninS z16 nin0)
  have f18 := (F_kept_x1.ext E1).keep Kq5 (ninS z16 nin0)
  refine own_kP (own_cvi X hx hZ hB (W := 0) hown (W 179 rfl) (W 180 rfl) (W 182 rfl) (W 181 rfl) (W 183 rfl) (W 95 rfl) (by decide) (rm_27 l Z a0 hw [] dc kd cr cc mr hG x1 lw1 r1 _ n0 (own_zO O) O f15 f17 f18) (by decide) (by decide) eT f15 hml rfl pd_17 rfl rfl rfl d22_32 (by decide) (by decide)) rfl rfl fun T X eT => ?_
  refine o_lloadN X hx hB d22_35 rfl ?_
  refine o_lcmp X hx hB d22_36 ?_
  refine o_ifNo X hx hB d22_37 (Jvm.Free.XT.ll_gt_f hq1) ?_
  refine o_aloadN X hx hB d22_40 rfl rfl ?_
  refine o_aloadN X hx hB d22_41 rfl rfl ?_
  refine o_getF X hx hZ hB hown (W 86 rfl) Via.refl eT f7 d22_42 fun T X eT => ?_
  refine own_kQ (own_cif X hx hZ hB (W := 1) hown (W 203 rfl) (W 204 rfl) (W 205 rfl) (W 206 rfl) (W 207 rfl) (W 208 rfl) (W 209 rfl) (W 116 rfl) (W 210 rfl) (W 77 rfl) (by decide) (rm_31 l Z a0 hw [] dc kd cr cc mr hG d ea k vs hd tl x1 _ n0 (own_zO O) O f11 f12 f9 f10 f14 ne_d_ea g_d g_ea hhd1 hv1 hinc1) (by decide) (by decide) eT f11 hml rfl pd_11 rfl rfl rfl d22_45 (by decide) (by decide)) fun v T L19 hQ X => ?_
  obtain ⟨rfl, Nq19, Kq19, t19_0, t19_1, t19_2, t19_3, t19_4, t19_5⟩ := hQ
  have N := Fr.app N Nq19
  have K := K.trans Kq19 (allS (Or.inl (List.mem_of_getElem? (i := 0) rfl)) (allS (Or.inl (List.mem_of_getElem? (i := 1) rfl)) all0))
  have O := O.keep Kq19 (allS g_d (allS g_ea all0))
  have f20 := f15.keep Kq19
  refine o_cast X hx hZ hB hown (W 93 rfl) rfl (Ins.of_exa f20 (W 178 rfl)) d22_50 fun T X eT => ?_
  have f21 := ((V_ea.2.2.2.ext E1).keep Kq5).keep Kq19
  have z22 := Exa.ne f20 f21 (by decide)
  have z23 := Exa.ne f20 t19_0 (by decide)
  have f24 := f17.keep Kq19 (ninS z23 (ninS z22 nin0))
  have f25 := f18.keep Kq19 (ninS z23 (ninS z22 nin0))
  refine own_kP (own_cvi X hx hZ hB (W := 1) hown (W 216 rfl) (W 217 rfl) (W 219 rfl) (W 218 rfl) (W 220 rfl) (W 95 rfl) (by decide) (rm_33 l Z a0 hw [] dc kd cr cc mr hG x1 lw1 r1 _ n0 (own_zO O) O f20 f24 f25) (by decide) (by decide) eT f20 hml rfl pd_18 rfl rfl rfl d22_53 (by decide) (by decide)) rfl rfl fun T X eT => ?_
  have f26 := t5_0.keep Kq19
  have f27 := t5_1.keep Kq19 (ninS (Ne.symm z8) (ninS (Ne.symm z13) nin0))
  have f28 := t5_2.keep Kq19 (ninS (Ne.symm z8) (ninS (Ne.symm z13) nin0))
  have f29 := t5_3.keep Kq19 (ninS (Ne.symm z8) (ninS (Ne.symm z13) nin0))
  have f30 := ((E_r1.ext E1).keep Kq5).keep Kq19
  have z31 := own_ne1 E_r1.lt g1
  have z32 := Exa.ne f30 f21 (by decide)
  have z33 := Exa.ne f30 t19_0 (by decide)
  have f34 := ((F_elementData_r1.ext E1).keep Kq5 (ninS z31 nin0)).keep Kq19 (ninS z33 (ninS z32 nin0))
  have f35 := ((F_size_r1.ext E1).keep Kq5 (ninS z31 nin0)).keep Kq19 (ninS z33 (ninS z32 nin0))
  have z36 := own_ne1 V_ar1.2.2.2.lt g1
  have f37 := ((V_ar1.2.2.2.ext E1).keep Kq5).keep Kq19
  have z38 := Exa.ne f37 t19_0 (by decide)
  have f39 := ((V_ar1.ext E1).keep Kq5 (ninS z36 nin0)).keep Kq19 (ninS z38 (ninS (Ne.symm ne_ea_ar1) nin0))
  refine own_kQ (own_cif X hx hZ hB (W := 0) hown (W 221 rfl) (W 222 rfl) (W 223 rfl) (W 224 rfl) (W 225 rfl) (W 226 rfl) (W 227 rfl) (W 40 rfl) (W 228 rfl) (W 2 rfl) (by decide) (rm_34f l Z a0 hw [] dc kd cr cc mr hG b0 r1 (0 : Int32) ar1 sz1 k1 v1 u1 _ n0 (own_zO O) O f26 f27 f28 f29 f30 f34 f35 f39 (Ne.symm z31) g_b0 hn0_1 hn3_1 hle_1 hz_1 hus_1 hI_1 hnz_1 hgt_1 hg_1) (by decide) (by decide) eT f26 hml rfl pd_19 rfl rfl rfl d22_56 (by decide) (by decide)) fun v T L40 hQ X => ?_
  obtain ⟨be, ke, rfl, Nq40, Kq40, t40_0, t40_1, t40_2, t40_3, t40_4, t40_5, t40_6⟩ := hQ
  have g_be := Nat.le_trans (own_zO O) t40_5
  have sz_be := Nat.le_trans K.1 t40_5
  have N := Fr.app N Nq40
  have K := K.trans Kq40 (allS (Or.inr sz_b0) all0)
  have O := O.keep Kq40 (allS g_b0 all0)
  refine o_pop X hx hB d22_61 rfl ?_
  refine o_goto X hx hB d22_62 8 ?_
  refine o_aloadN X hx hB d22_8 rfl rfl ?_
  have f41 := (((E_a.ext E1).keep Kq5).keep Kq19).keep Kq40
  have f42 := f21.keep Kq40
  have z43 := Exa.ne f41 f42 (by decide)
  have f44 := t19_0.keep Kq40
  have z45 := Exa.ne f41 f44 (by decide)
  have f46 := (f7.keep Kq19 (ninS z45 (ninS z43 nin0))).keep Kq40 (ninS z6 nin0)
  refine o_getF X hx hZ hB hown (W 86 rfl) Via.refl rfl f46 d22_9 fun T X eT => ?_
  have f47 := t19_2.keep Kq40 (ninS z8 nin0)
  have f48 := t19_3.keep Kq40 (ninS z8 nin0)
  refine own_kP (own_ciu X hx hZ hB (W := 0) hown (W 154 rfl) (W 155 rfl) (W 156 rfl) (by decide) (by decide) (W 157 rfl) (W 158 rfl) (W 159 rfl) (W 160 rfl) (W 116 rfl) (W 161 rfl) (W 77 rfl) (by decide) (rm_23 l Z a0 hw [] dc kd cr cc mr hG d (hd + (1 : Int32)) tl _ n0 (own_zO O) O f47 f48) (by decide) (by decide) eT f44 hml rfl pd_16 rfl rfl rfl d22_12 (by decide) (by decide)) rfl rfl fun T X eT => ?_
  refine o_ifNo X hx hB d22_17 (Jvm.Free.XT.i0_ne_f (by rw [if_neg hem2] : (if (hd + (1 : Int32)) = tl then (1 : Int32) else (0 : Int32)) = 0)) ?_
  refine o_aloadN X hx hB d22_20 rfl rfl ?_
  refine o_getF X hx hZ hB hown (W 86 rfl) Via.refl eT f46 d22_21 fun T X eT => ?_
  have f49 := t19_1.keep Kq40 (ninS z8 nin0)
  have f50 := t19_4.keep Kq40 (ninS z13 nin0)
  refine own_kP (own_cif X hx hZ hB (W := 0) hown (W 162 rfl) (W 163 rfl) (W 164 rfl) (W 165 rfl) (W 166 rfl) (W 167 rfl) (W 168 rfl) (W 116 rfl) (W 169 rfl) (W 77 rfl) (by decide) (rm_24 l Z a0 hw [] dc kd cr cc mr hG d ea k (vs.set hd.toNatClampNeg .null) (hd + (1 : Int32)) tl x2 _ n0 (own_zO O) O f44 f49 f47 f48 f50 hhd2 hv2) (by decide) (by decide) eT f44 hml rfl pd_11 rfl rfl rfl d22_24 (by decide) (by decide)) rfl rfl fun T X eT => ?_
  have f51 := (((E_x2.ext E1).keep Kq5).keep Kq19).keep Kq40
  refine o_cast X hx hZ hB hown (W 93 rfl) eT (Ins.of_exa f51 (W 178 rfl)) d22_29 fun T X eT => ?_
  have z52 := own_ne1 E_x2.lt g1
  have z53 := Exa.ne f51 f42 (by decide)
  have z54 := Exa.ne f51 f44 (by decide)
  have f55 := (((F_lastWrite_x2.ext E1).keep Kq5 (ninS z52 nin0)).keep Kq19 (ninS z54 (ninS z53 nin0))).keep Kq40 (ninS z52 nin0)
  have f56 := (((F_kept_x2.ext E1).keep Kq5 (ninS z52 nin0)).keep Kq19 (ninS z54 (ninS z53 nin0))).keep Kq40 (ninS z52 nin0)
  refine own_kP (own_cvi X hx hZ hB (W := 0) hown (W 179 rfl) (W 180 rfl) (W 182 rfl) (W 181 rfl) (W 183 rfl) (W 95 rfl) (by decide) (rm_27 l Z a0 hw [] dc kd cr cc mr hG x2 lw2 r2 _ n0 (own_zO O) O f51 f55 f56) (by decide) (by decide) eT f51 hml rfl pd_17 rfl rfl rfl d22_32 (by decide) (by decide)) rfl rfl fun T X eT => ?_
  refine o_lloadN X hx hB d22_35 rfl ?_
  refine o_lcmp X hx hB d22_36 ?_
  refine o_ifNo X hx hB d22_37 (Jvm.Free.XT.ll_gt_f hq2) ?_
  refine o_aloadN X hx hB d22_40 rfl rfl ?_
  refine o_aloadN X hx hB d22_41 rfl rfl ?_
  refine o_getF X hx hZ hB hown (W 86 rfl) Via.refl eT f46 d22_42 fun T X eT => ?_
  refine own_kQ (own_cif X hx hZ hB (W := 1) hown (W 203 rfl) (W 204 rfl) (W 205 rfl) (W 206 rfl) (W 207 rfl) (W 208 rfl) (W 209 rfl) (W 116 rfl) (W 210 rfl) (W 77 rfl) (by decide) (rm_31 l Z a0 hw [] dc kd cr cc mr hG d ea k (vs.set hd.toNatClampNeg .null) (hd + (1 : Int32)) tl x2 _ n0 (own_zO O) O f44 f49 f47 f48 f50 t19_5 g_d g_ea hhd2 hv2 hinc2) (by decide) (by decide) eT f44 hml rfl pd_11 rfl rfl rfl d22_45 (by decide) (by decide)) fun v T L57 hQ X => ?_
  obtain ⟨rfl, Nq57, Kq57, t57_0, t57_1, t57_2, t57_3, t57_4, t57_5⟩ := hQ
  have N := Fr.app N Nq57
  have K := K.trans Kq57 (allS (Or.inl (List.mem_of_getElem? (i := 0) rfl)) (allS (Or.inl (List.mem_of_getElem? (i := 1) rfl)) all0))
  have O := O.keep Kq57 (allS g_d (allS g_ea all0))
  have f58 := f51.keep Kq57
  refine o_cast X hx hZ hB hown (W 93 rfl) rfl (Ins.of_exa f58 (W 178 rfl)) d22_50 fun T X eT => ?_
  have f59 := f55.keep Kq57 (ninS z54 (ninS z53 nin0))
  have f60 := f56.keep Kq57 (ninS z54 (ninS z53 nin0))
  refine own_kP (own_cvi X hx hZ hB (W := 1) hown (W 216 rfl) (W 217 rfl) (W 219 rfl) (W 218 rfl) (W 220 rfl) (W 95 rfl) (by decide) (rm_33 l Z a0 hw [] dc kd cr cc mr hG x2 lw2 r2 _ n0 (own_zO O) O f58 f59 f60) (by decide) (by decide) eT f58 hml rfl pd_18 rfl rfl rfl d22_53 (by decide) (by decide)) rfl rfl fun T X eT => ?_
  have f61 := t40_0.keep Kq57
  have f62 := t40_1.keep Kq57 (ninS (Ne.symm z8) (ninS (Ne.symm z13) nin0))
  have f63 := t40_2.keep Kq57 (ninS (Ne.symm z8) (ninS (Ne.symm z13) nin0))
  have f64 := t40_3.keep Kq57 (ninS (Ne.symm z8) (ninS (Ne.symm z13) nin0))
  have z65 := own_ne2 f21.lt t40_5
  have z66 := own_ne2 t19_0.lt t40_5
  have f67 := t40_4.keep Kq57 (ninS (Ne.symm z66) (ninS (Ne.symm z65) nin0))
  have f68 := ((((E_r2.ext E1).keep Kq5).keep Kq19).keep Kq40).keep Kq57
  have z69 := own_ne1 E_r2.lt g1
  have f70 := f42.keep Kq57
  have z71 := Exa.ne f68 f70 (by decide)
  have z72 := Exa.ne f68 t57_0 (by decide)
  have f73 := ((((F_elementData_r2.ext E1).keep Kq5 (ninS z69 nin0)).keep Kq19 (ninS z72 (ninS z71 nin0))).keep Kq40 (ninS z69 nin0)).keep Kq57 (ninS z72 (ninS z71 nin0))
  have f74 := ((((F_size_r2.ext E1).keep Kq5 (ninS z69 nin0)).keep Kq19 (ninS z72 (ninS z71 nin0))).keep Kq40 (ninS z69 nin0)).keep Kq57 (ninS z72 (ninS z71 nin0))
  have z75 := own_ne1 V_ar2.2.2.2.lt g1
  have f76 := ((((V_ar2.2.2.2.ext E1).keep Kq5).keep Kq19).keep Kq40).keep Kq57
  have z77 := Exa.ne f76 t57_0 (by decide)
  have f78 := ((((V_ar2.ext E1).keep Kq5 (ninS z75 nin0)).keep Kq19 (ninS z77 (ninS (Ne.symm ne_ea_ar2) nin0))).keep Kq40 (ninS z75 nin0)).keep Kq57 (ninS z77 (ninS (Ne.symm ne_ea_ar2) nin0))
  have z79 := own_ne2 (((V_ar2.2.2.2.ext E1).keep Kq5).keep Kq19).lt t40_5
  refine own_kQ (own_cif X hx hZ hB (W := 0) hown (W 221 rfl) (W 222 rfl) (W 223 rfl) (W 224 rfl) (W 225 rfl) (W 226 rfl) (W 227 rfl) (W 40 rfl) (W 228 rfl) (W 2 rfl) (by decide) (rm_34r l Z a0 hw [] dc kd cr cc mr hG b0 r2 ((0 : Int32) + (1 : Int32)) be ke (u1 ++ List.replicate (10 - sz1.toNatClampNeg) Value.null) ((0 : Int32) + sz1) ar2 sz2 k2 v2 u2 _ n0 (own_zO O) O f61 f62 f63 f64 f67 t40_6 f68 f73 f74 f78 (Ne.symm z69) (Ne.symm z79) g_b0 g_be hn0_2 hn3_2 hle_2 hz_2 hus_2 hI_2 hnz_2 hgt_2 hi0_2 hin_2) (by decide) (by decide) eT f61 hml rfl pd_19 rfl rfl rfl d22_56 (by decide) (by decide)) fun v T L80 hQ X => ?_
  obtain ⟨rfl, Nq80, Kq80, t80_0, t80_1, t80_2, t80_3, t80_4, t80_5⟩ := hQ
  have N := Fr.app N Nq80
  have K := K.trans Kq80 (allS (Or.inr sz_b0) (allS (Or.inr sz_be) all0))
  have O := O.keep Kq80 (allS g_b0 (allS g_be all0))
  refine o_pop X hx hB d22_61 rfl ?_
  refine o_goto X hx hB d22_62 8 ?_
  refine o_aloadN X hx hB d22_8 rfl rfl ?_
  have z81 := own_ne2 (((E_a.ext E1).keep Kq5).keep Kq19).lt t40_5
  have f82 := (f46.keep Kq57 (ninS z45 (ninS z43 nin0))).keep Kq80 (ninS z6 (ninS z81 nin0))
  refine o_getF X hx hZ hB hown (W 86 rfl) Via.refl rfl f82 d22_9 fun T X eT => ?_
  have f83 := t57_2.keep Kq80 (ninS z8 (ninS z66 nin0))
  have f84 := t57_3.keep Kq80 (ninS z8 (ninS z66 nin0))
  have f85 := t57_0.keep Kq80
  refine own_kP (own_ciu X hx hZ hB (W := 0) hown (W 154 rfl) (W 155 rfl) (W 156 rfl) (by decide) (by decide) (W 157 rfl) (W 158 rfl) (W 159 rfl) (W 160 rfl) (W 116 rfl) (W 161 rfl) (W 77 rfl) (by decide) (rm_23 l Z a0 hw [] dc kd cr cc mr hG d ((hd + (1 : Int32)) + (1 : Int32)) tl _ n0 (own_zO O) O f83 f84) (by decide) (by decide) eT f85 hml rfl pd_16 rfl rfl rfl d22_12 (by decide) (by decide)) rfl rfl fun T X eT => ?_
  refine o_ifYes X hx hB d22_17 (Jvm.Free.XT.i0_ne_t (by rw [if_pos hend]; decide : ¬ ((if ((hd + (1 : Int32)) + (1 : Int32)) = tl then (1 : Int32) else (0 : Int32)) = 0))) 65 ?_
  refine o_aloadN X hx hB d22_65 rfl rfl ?_
  have f86 := t57_1.keep Kq80 (ninS z8 (ninS z66 nin0))
  have f87 := t57_4.keep Kq80 (ninS z13 (ninS z65 nin0))
  exact own_retA X hx Bd.returns (hb hB d22_66) (BodyLoose.notSynchronized Bd) rfl rfl (by rw [eT]; exact ⟨b0, be, ke, rfl, N, K, t80_0, t80_1, t80_2, t80_3, sz_b0, t80_4, t80_5, sz_be, f85, f86, f83, f84, f87, t57_5⟩) (by decide) (by decide)
theorem ef_22_1e (m : MethodId) (a : Addr) (q : Int64) : entryFrame m #[(.ref a), (.long q)] 4 = mkF m 0 #[.val (.ref a), .val (.long q), .second, .unset] [] := by first | (simp [entryFrame, mkF, argsToLocals, Value.category]; done) | rfl
abbrev own_room_22_1e : Room := { frames := 5, cells := 2, slots := 6, locals := 97 }
def own_Q_22_1e (Z : State) (dc : Addr) (kd : ClassId) (cr : Addr) (cc : Cell) (mr : Addr) (a : Addr) (q : Int64) (d ea : Addr) (k : ClassId) (vs : List Value) (hd tl : Int32) (x1 : Addr) (lw1 : Int64) (r1 : Addr) (h0 : Heap) (n0 : Nat) (v : Option Value) (h : Heap) (L : List Loc) : Prop := ∃ b : Addr, v = (some (.ref b)) ∧ Fr n0 L ∧ Keep h0 h [d, ea] ∧ Exa Z h b "java/util/ArrayList" ∧ Fld Z h b "java/util/AbstractList" "modCount" "I" (.int ((0 : Int32) + (1 : Int32))) ∧ Fld Z h b "java/util/ArrayList" "elementData" "[Ljava/lang/Object;" (.ref dc) ∧ Fld Z h b "java/util/ArrayList" "size" "I" (.int (0 : Int32)) ∧ h0.size ≤ b ∧ Exa Z h d "java/util/ArrayDeque" ∧ Fld Z h d "java/util/ArrayDeque" "elements" "[Ljava/lang/Object;" (.ref ea) ∧ Fld Z h d "java/util/ArrayDeque" "head" "I" (.int (hd + (1 : Int32))) ∧ Fld Z h d "java/util/ArrayDeque" "tail" "I" (.int tl) ∧ own_AR Z h ea k (17 : Int32) (vs.set hd.toNatClampNeg .null) ∧ d ≠ ea
set_option maxRecDepth 65536 in
set_option maxHeartbeats 40000000 in
theorem rm_22_1e (l : Launch) (Z : State) (a0 : Array Value) (hw : own_Hw a0 Z) (ws : List Jvm.Cond) (dc : Addr) (kd : ClassId) (cr : Addr) (cc : Cell) (mr : Addr) (hG : own_G Z dc kd cr cc mr) (a : Addr) (q : Int64) (d ea : Addr) (k : ClassId) (vs : List Value) (hd tl : Int32) (x1 : Addr) (lw1 : Int64) (r1 : Addr) (h0 : Heap) (n0 : Nat) (Z0 : n0 ≤ h0.size) (hO : Old Z n0 h0) (E_a : Exa Z h0 a "com/example/sandpiper/sandpiper/broker/AwaitingSync") (F_batches_a : Fld Z h0 a "com/example/sandpiper/sandpiper/broker/AwaitingSync" "batches" "Ljava/util/Deque;" (.ref d)) (E_d : Exa Z h0 d "java/util/ArrayDeque") (F_elements_d : Fld Z h0 d "java/util/ArrayDeque" "elements" "[Ljava/lang/Object;" (.ref ea)) (F_head_d : Fld Z h0 d "java/util/ArrayDeque" "head" "I" (.int hd)) (F_tail_d : Fld Z h0 d "java/util/ArrayDeque" "tail" "I" (.int tl)) (V_ea : own_AR Z h0 ea k (17 : Int32) vs) (ne_d_ea : d ≠ ea) (E_x1 : Exa Z h0 x1 "com/example/sandpiper/sandpiper/broker/AwaitingSync$Batch") (F_lastWrite_x1 : Fld Z h0 x1 "com/example/sandpiper/sandpiper/broker/AwaitingSync$Batch" "lastWrite" "J" (.long lw1)) (F_kept_x1 : Fld Z h0 x1 "com/example/sandpiper/sandpiper/broker/AwaitingSync$Batch" "kept" "Ljava/util/List;" (.ref r1)) (E_r1 : Exa Z h0 r1 "java/util/ArrayList") (F_elementData_r1 : Fld Z h0 r1 "java/util/ArrayList" "elementData" "[Ljava/lang/Object;" (.ref dc)) (F_size_r1 : Fld Z h0 r1 "java/util/ArrayList" "size" "I" (.int (0 : Int32))) (g_d : n0 ≤ d) (g_ea : n0 ≤ ea) (hem1 : ¬ (hd = tl)) (hhd1 : ¬ hd < 0 ∧ hd < (17 : Int32)) (hv1 : vs.getD hd.toNatClampNeg .null = .ref x1) (hq1 : ¬ (q < lw1)) (hinc1 : (hd + (1 : Int32)) < (17 : Int32)) (hend : (hd + (1 : Int32)) = tl) :
    own_Met l (⟨"com/example/sandpiper/sandpiper/broker/AwaitingSync", "due", "(J)Ljava/util/List;"⟩ : MethodName) (Jvm.Cond.code (⟨"com/example/sandpiper/sandpiper/broker/AwaitingSync", "due", "(J)Ljava/util/List;"⟩ : MethodName) prog_16_method_3_code 4 (some (.object "java/util/List"))) ws own_room_22_1e #[(.ref a), (.long q)] Z h0 (own_Q_22_1e Z dc kd cr cc mr a q d ea k vs hd tl x1 lw1 r1 h0 n0) own_room_22_1e.cells own_room_22_1e.slots := by
  refine MetFree.of_bodySF (plainFor_of_name pn_22) hisR ?_
  intro p e s m args below meth c T Bd hml0 hP hK
  obtain ⟨rfl, hZ, hh⟩ := hP
  obtain ⟨hx, hB⟩ := And.intro Bd.exec Bd.bytes
  have hml : c.maxLocals = 4 := hml0
  have hown : s.vm.findClass "com/example/sandpiper/sandpiper/broker/AwaitingSync" = some m.cls := findClass_of_methodNamed Bd.named
  have hnm := (name_of_methodNamed Bd.named Bd.method).1
  have X : Stand p l e own_room_22_1e s m #[(.ref a), (.long q)] below meth c T [] 0 0 := Stand.of_body Bd
  have eT : T.heap = h0 := by rw [← hh, Bd.state]; rfl
  have W := @own_Wd a0 Z hw
  have N := Fr.nil n0
  have O := hO
  have K := Keep.refl h0 [d, ea]
  refine own_enter (ef_22_1e m a q) ?_
  show own_Goes _ _ _ _ (own_P s (own_Q_22_1e Z dc kd cr cc mr a q d ea k vs hd tl x1 lw1 r1 h0 n0) own_room_22_1e.cells own_room_22_1e.slots)
  refine o_new X hx hZ hB hown (W 152 rfl) (W 1 rfl) (W 2 rfl) eT d22_0 (by decide) (by decide) fun T h1 b0 g1 X eT E1 A1 D1 => ?_
  have g_b0 := own_gn O g1
  have sz_b0 := own_gz K g1
  have K := K.ext E1
  have O := O.ext E1
  refine o_dup X hx hB d22_3 rfl ?_
  have f2 := D1 (Or.inl (W 22 rfl)) (ty := .int) (by decide)
  have f3 := D1 (Or.inl (W 25 rfl)) (ty := (.array (.object "java/lang/Object"))) (by decide)
  have f4 := D1 (Or.inl (W 45 rfl)) (ty := .int) (by decide)
  refine own_kQ (own_csp X hx hZ hB (W := 1) hown rfl (W 153 rfl) (W 4 rfl) (W 5 rfl) (W 2 rfl) (by decide) (rm_1 l Z a0 hw [] dc kd cr cc mr hG b0 (0 : Int32) (0 : Int32) _ n0 (own_zO O) O A1 f2 f3 f4 g_b0) (by decide) (by decide) eT hml rfl pd_0 rfl rfl rfl d22_4 (by decide) (by decide)) fun v T L5 hQ X => ?_
  obtain ⟨rfl, Nq5, Kq5, t5_0, t5_1, t5_2, t5_3⟩ := hQ
  have N := Fr.app N Nq5
  have K := K.trans Kq5 (allS (Or.inr sz_b0) all0)
  have O := O.keep Kq5 (allS g_b0 all0)
  refine o_astoreN X hx hB #[.val (.ref a), .val (.long q), .second, .val (.ref b0)] d22_7 rfl rfl ?_
  refine o_aloadN X hx hB d22_8 rfl rfl ?_
  have z6 := own_ne1 E_a.lt g1
  have f7 := (F_batches_a.ext E1).keep Kq5 (ninS z6 nin0)
  refine o_getF X hx hZ hB hown (W 86 rfl) Via.refl rfl f7 d22_9 fun T X eT => ?_
  have z8 := own_ne1 E_d.lt g1
  have f9 := (F_head_d.ext E1).keep Kq5 (ninS z8 nin0)
  have f10 := (F_tail_d.ext E1).keep Kq5 (ninS z8 nin0)
  have f11 := (E_d.ext E1).keep Kq5
  refine own_kP (own_ciu X hx hZ hB (W := 0) hown (W 154 rfl) (W 155 rfl) (W 156 rfl) (by decide) (by decide) (W 157 rfl) (W 158 rfl) (W 159 rfl) (W 160 rfl) (W 116 rfl) (W 161 rfl) (W 77 rfl) (by decide) (rm_23 l Z a0 hw [] dc kd cr cc mr hG d hd tl _ n0 (own_zO O) O f9 f10) (by decide) (by decide) eT f11 hml rfl pd_16 rfl rfl rfl d22_12 (by decide) (by decide)) rfl rfl fun T X eT => ?_
  refine o_ifNo X hx hB d22_17 (Jvm.Free.XT.i0_ne_f (by rw [if_neg hem1] : (if hd = tl then (1 : Int32) else (0 : Int32)) = 0)) ?_
  refine o_aloadN X hx hB d22_20 rfl rfl ?_
  refine o_getF X hx hZ hB hown (W 86 rfl) Via.refl eT f7 d22_21 fun T X eT => ?_
  have f12 := (F_elements_d.ext E1).keep Kq5 (ninS z8 nin0)
  have z13 := own_ne1 V_ea.2.2.2.lt g1
  have f14 := (V_ea.ext E1).keep Kq5 (ninS z13 nin0)
  refine own_kP (own_cif X hx hZ hB (W := 0) hown (W 162 rfl) (W 163 rfl) (W 164 rfl) (W 165 rfl) (W 166 rfl) (W 167 rfl) (W 168 rfl) (W 116 rfl) (W 169 rfl) (W 77 rfl) (by decide) (rm_24 l Z a0 hw [] dc kd cr cc mr hG d ea k vs hd tl x1 _ n0 (own_zO O) O f11 f12 f9 f10 f14 hhd1 hv1) (by decide) (by decide) eT f11 hml rfl pd_11 rfl rfl rfl d22_24 (by decide) (by decide)) rfl rfl fun T X eT => ?_
  have f15 := (E_x1.ext E1).keep Kq5
  refine o_cast X hx hZ hB hown (W 93 rfl) eT (Ins.of_exa f15 (W 178 rfl)) d22_29 fun T X eT => ?_
  have z16 := own_ne1 E_x1.lt g1
  have f17 := (F_lastWrite_x1.ext E1).keep Kq5 (ninS z16 nin0)
  have f18 := (F_kept_x1.ext E1).keep Kq5 (ninS z16 nin0)
  refine own_kP (own_cvi X hx hZ hB (W := 0) hown (W 179 rfl) (W 180 rfl) (W 182 rfl) (W 181 rfl) (W 183 rfl) (W 95 rfl) (by decide) (rm_27 l Z a0 hw [] dc kd cr cc mr hG x1 lw1 r1 _ n0 (own_zO O) O f15 f17 f18) (by decide) (by decide) eT f15 hml rfl pd_17 rfl rfl rfl d22_32 (by decide) (by decide)) rfl rfl fun T X eT => ?_
  refine o_lloadN X hx hB d22_35 rfl ?_
  refine o_lcmp X hx hB d22_36 ?_
  refine o_ifNo X hx hB d22_37 (Jvm.Free.XT.ll_gt_f hq1) ?_
  refine o_aloadN X hx hB d22_40 rfl rfl ?_
  refine o_aloadN X hx hB d22_41 rfl rfl ?_
  refine o_getF X hx hZ hB hown (W 86 rfl) Via.refl eT f7 d22_42 fun T X eT => ?_
  refine own_kQ (own_cif X hx hZ hB (W := 1) hown (W 203 rfl) (W 204 rfl) (W 205 rfl) (W 206 rfl) (W 207 rfl) (W 208 rfl) (W 209 rfl) (W 116 rfl) (W 210 rfl) (W 77 rfl) (by decide) (rm_31 l Z a0 hw [] dc kd cr cc mr hG d ea k vs hd tl x1 _ n0 (own_zO O) O f11 f12 f9 f10 f14 ne_d_ea g_d g_ea hhd1 hv1 hinc1) (by decide) (by decide) eT f11 hml rfl pd_11 rfl rfl rfl d22_45 (by decide) (by decide)) fun v T L19 hQ X => ?_
  obtain ⟨rfl, Nq19, Kq19, t19_0, t19_1, t19_2, t19_3, t19_4, t19_5⟩ := hQ
  have N := Fr.app N Nq19
  have K := K.trans Kq19 (allS (Or.inl (List.mem_of_getElem? (i := 0) rfl)) (allS (Or.inl (List.mem_of_getElem? (i := 1) rfl)) all0))
  have O := O.keep Kq19 (allS g_d (allS g_ea all0))
  have f20 := f15.keep Kq19
  refine o_cast X hx hZ hB hown (W 93 rfl) rfl (Ins.of_exa f20 (W 178 rfl)) d22_50 fun T X eT => ?_
  have f21 := ((V_ea.2.2.2.ext E1).keep Kq5).keep Kq19
  have z22 := Exa.ne f20 f21 (by decide)
  have z23 := Exa.ne f20 t19_0 (by decide)
  have f24 := f17.keep Kq19 (ninS z23 (ninS z22 nin0))
  have f25 := f18.keep Kq19 (ninS z23 (ninS z22 nin0))
  refine own_kP (own_cvi X hx hZ hB (W := 1) hown (W 216 rfl) (W 217 rfl) (W 219 rfl) (W 218 rfl) (W 220 rfl) (W 95 rfl) (by decide) (rm_33 l Z a0 hw [] dc kd cr cc mr hG x1 lw1 r1 _ n0 (own_zO O) O f20 f24 f25) (by decide) (by decide) eT f20 hml rfl pd_18 rfl rfl rfl d22_53 (by decide) (by decide)) rfl rfl fun T X eT => ?_
  have f26 := t5_0.keep Kq19
  have f27 := t5_1.keep Kq19 (ninS (Ne.symm z8) (ninS (Ne.symm z13) nin0))
  have f28 := t5_2.keep Kq19 (ninS (Ne.symm z8) (ninS (Ne.symm z13) nin0))
  have f29 := t5_3.keep Kq19 (ninS (Ne.symm z8) (ninS (Ne.symm z13) nin0))
  have f30 := ((E_r1.ext E1).keep Kq5).keep Kq19
  have z31 := own_ne1 E_r1.lt g1
  have z32 := Exa.ne f30 f21 (by decide)
  have z33 := Exa.ne f30 t19_0 (by decide)
  have f34 := ((F_elementData_r1.ext E1).keep Kq5 (ninS z31 nin0)).keep Kq19 (ninS z33 (ninS z32 nin0))
  have f35 := ((F_size_r1.ext E1).keep Kq5 (ninS z31 nin0)).keep Kq19 (ninS z33 (ninS z32 nin0))
  refine own_kQ (own_cif X hx hZ hB (W := 0) hown (W 221 rfl) (W 222 rfl) (W 223 rfl) (W 224 rfl) (W 225 rfl) (W 226 rfl) (W 227 rfl) (W 40 rfl) (W 228 rfl) (W 2 rfl) (by decide) (rm_34e l Z a0 hw [] dc kd cr cc mr hG b0 r1 dc (0 : Int32) (0 : Int32) _ n0 (own_zO O) O f26 f27 f28 f29 f30 f34 f35 (Ne.symm z31) g_b0) (by decide) (by decide) eT f26 hml rfl pd_19 rfl rfl rfl d22_56 (by decide) (by decide)) fun v T L36 hQ X => ?_
  obtain ⟨rfl, Nq36, Kq36, t36_0, t36_1, t36_2, t36_3⟩ := hQ
  have N := Fr.app N Nq36
  have K := K.trans Kq36 (allS (Or.inr sz_b0) all0)
  have O := O.keep Kq36 (allS g_b0 all0)
  refine o_pop X hx hB d22_61 rfl ?_
  refine o_goto X hx hB d22_62 8 ?_
  refine o_aloadN X hx hB d22_8 rfl rfl ?_
  have f37 := (((E_a.ext E1).keep Kq5).keep Kq19).keep Kq36
  have f38 := f21.keep Kq36
  have z39 := Exa.ne f37 f38 (by decide)
  have f40 := t19_0.keep Kq36
  have z41 := Exa.ne f37 f40 (by decide)
  have f42 := (f7.keep Kq19 (ninS z41 (ninS z39 nin0))).keep Kq36 (ninS z6 nin0)
  refine o_getF X hx hZ hB hown (W 86 rfl) Via.refl rfl f42 d22_9 fun T X eT => ?_
  have f43 := t19_2.keep Kq36 (ninS z8 nin0)
  have f44 := t19_3.keep Kq36 (ninS z8 nin0)
  refine own_kP (own_ciu X hx hZ hB (W := 0) hown (W 154 rfl) (W 155 rfl) (W 156 rfl) (by decide) (by decide) (W 157 rfl) (W 158 rfl) (W 159 rfl) (W 160 rfl) (W 116 rfl) (W 161 rfl) (W 77 rfl) (by decide) (rm_23 l Z a0 hw [] dc kd cr cc mr hG d (hd + (1 : Int32)) tl _ n0 (own_zO O) O f43 f44) (by decide) (by decide) eT f40 hml rfl pd_16 rfl rfl rfl d22_12 (by decide) (by decide)) rfl rfl fun T X eT => ?_
  refine o_ifYes X hx hB d22_17 (Jvm.Free.XT.i0_ne_t (by rw [if_pos hend]; decide : ¬ ((if (hd + (1 : Int32)) = tl then (1 : Int32) else (0 : Int32)) = 0))) 65 ?_
  refine o_aloadN X hx hB d22_65 rfl rfl ?_
  have f45 := t19_1.keep Kq36 (ninS z8 nin0)
  have f46 := t19_4.keep Kq36 (ninS z13 nin0)
  exact own_retA X hx Bd.returns (hb hB d22_66) (BodyLoose.notSynchronized Bd) rfl rfl (by rw [eT]; exact ⟨b0, rfl, N, K, t36_0, t36_1, t36_2, t36_3, sz_b0, f40, f45, f43, f44, f46, t19_5⟩) (by decide) (by decide)
theorem ef_22_1f (m : MethodId) (a : Addr) (q : Int64) : entryFrame m #[(.ref a), (.long q)] 4 = mkF m 0 #[.val (.ref a), .val (.long q), .second, .unset] [] := by first | (simp [entryFrame, mkF, argsToLocals, Value.category]; done) | rfl
abbrev own_room_22_1f : Room := { frames := 5, cells := 3, slots := 16, locals := 97 }
def own_Q_22_1f (Z : State) (dc : Addr) (kd : ClassId) (cr : Addr) (cc : Cell) (mr : Addr) (a : Addr) (q : Int64) (d ea : Addr) (k : ClassId) (vs : List Value) (hd tl : Int32) (x1 : Addr) (lw1 : Int64) (r1 ar1 : Addr) (sz1 : Int32) (k1 : ClassId) (v1 u1 : List Value) (h0 : Heap) (n0 : Nat) (v : Option Value) (h : Heap) (L : List Loc) : Prop := ∃ b : Addr, ∃ eb : Addr, ∃ ke0 : ClassId, v = (some (.ref b)) ∧ Fr n0 L ∧ Keep h0 h [d, ea] ∧ Exa Z h b "java/util/ArrayList" ∧ Fld Z h b "java/util/AbstractList" "modCount" "I" (.int ((0 : Int32) + (1 : Int32))) ∧ Fld Z h b "java/util/ArrayList" "elementData" "[Ljava/lang/Object;" (.ref eb) ∧ Fld Z h b "java/util/ArrayList" "size" "I" (.int ((0 : Int32) + sz1)) ∧ h0.size ≤ b ∧ own_AR Z h eb ke0 (10 : Int32) (u1 ++ List.replicate (10 - sz1.toNatClampNeg) Value.null) ∧ b ≠ eb ∧ h0.size ≤ eb ∧ Exa Z h d "java/util/ArrayDeque" ∧ Fld Z h d "java/util/ArrayDeque" "elements" "[Ljava/lang/Object;" (.ref ea) ∧ Fld Z h d "java/util/ArrayDeque" "head" "I" (.int (hd + (1 : Int32))) ∧ Fld Z h d "java/util/ArrayDeque" "tail" "I" (.int tl) ∧ own_AR Z h ea k (17 : Int32) (vs.set hd.toNatClampNeg .null) ∧ d ≠ ea
set_option maxRecDepth 65536 in
set_option maxHeartbeats 40000000 in
theorem rm_22_1f (l : Launch) (Z : State) (a0 : Array Value) (hw : own_Hw a0 Z) (ws : List Jvm.Cond) (dc : Addr) (kd : ClassId) (cr : Addr) (cc : Cell) (mr : Addr) (hG : own_G Z dc kd cr cc mr) (a : Addr) (q : Int64) (d ea : Addr) (k : ClassId) (vs : List Value) (hd tl : Int32) (x1 : Addr) (lw1 : Int64) (r1 ar1 : Addr) (sz1 : Int32) (k1 : ClassId) (v1 u1 : List Value) (h0 : Heap) (n0 : Nat) (Z0 : n0 ≤ h0.size) (hO : Old Z n0 h0) (E_a : Exa Z h0 a "com/example/sandpiper/sandpiper/broker/AwaitingSync") (F_batches_a : Fld Z h0 a "com/example/sandpiper/sandpiper/broker/AwaitingSync" "batches" "Ljava/util/Deque;" (.ref d)) (E_d : Exa Z h0 d "java/util/ArrayDeque") (F_elements_d : Fld Z h0 d "java/util/ArrayDeque" "elements" "[Ljava/lang/Object;" (.ref ea)) (F_head_d : Fld Z h0 d "java/util/ArrayDeque" "head" "I" (.int hd)) (F_tail_d : Fld Z h0 d "java/util/ArrayDeque" "tail" "I" (.int tl)) (V_ea : own_AR Z h0 ea k (17 : Int32) vs) (ne_d_ea : d ≠ ea) (E_x1 : Exa Z h0 x1 "com/example/sandpiper/sandpiper/broker/AwaitingSync$Batch") (F_lastWrite_x1 : Fld Z h0 x1 "com/example/sandpiper/sandpiper/broker/AwaitingSync$Batch" "lastWrite" "J" (.long lw1)) (F_kept_x1 : Fld Z h0 x1 "com/example/sandpiper/sandpiper/broker/AwaitingSync$Batch" "kept" "Ljava/util/List;" (.ref r1)) (E_r1 : Exa Z h0 r1 "java/util/ArrayList") (F_elementData_r1 : Fld Z h0 r1 "java/util/ArrayList" "elementData" "[Ljava/lang/Object;" (.ref ar1)) (F_size_r1 : Fld Z h0 r1 "java/util/ArrayList" "size" "I" (.int sz1)) (V_ar1 : own_AR Z h0 ar1 k1 (10 : Int32) v1) (ne_ea_ar1 : ea ≠ ar1) (g_d : n0 ≤ d) (g_ea : n0 ≤ ea) (hem1 : ¬ (hd = tl)) (hhd1 : ¬ hd < 0 ∧ hd < (17 : Int32)) (hv1 : vs.getD hd.toNatClampNeg .null = .ref x1) (hq1 : ¬ (q < lw1)) (hinc1 : (hd + (1 : Int32)) < (17 : Int32)) (hn0_1 : ¬ sz1 < 0) (hn3_1 : sz1.toNatClampNeg ≤ 3) (hle_1 : (if sz1 < (10 : Int32) then sz1 else (10 : Int32)) = sz1) (hz_1 : sz1.toNatClampNeg ≤ (10 : Int32).toNatClampNeg) (hus_1 : u1 = (List.range sz1.toNatClampNeg).map fun i => v1.getD ((0 : Int32).toNatClampNeg + i) Value.null) (hI_1 : u1.length = sz1.toNatClampNeg ∧ ∀ u ∈ u1, ∃ y, u = Value.ref y ∧ Exa Z Z.heap y "java/lang/Integer") (hnz_1 : ¬ (sz1 = 0)) (hgt_1 : ((0 : Int32) - (0 : Int32)) < sz1) (hg_1 : ¬ ((10 : Int32) < ((0 : Int32) + sz1))) (hend : (hd + (1 : Int32)) = tl) :
    own_Met l (⟨"com/example/sandpiper/sandpiper/broker/AwaitingSync", "due", "(J)Ljava/util/List;"⟩ : MethodName) (Jvm.Cond.code (⟨"com/example/sandpiper/sandpiper/broker/AwaitingSync", "due", "(J)Ljava/util/List;"⟩ : MethodName) prog_16_method_3_code 4 (some (.object "java/util/List"))) ws own_room_22_1f #[(.ref a), (.long q)] Z h0 (own_Q_22_1f Z dc kd cr cc mr a q d ea k vs hd tl x1 lw1 r1 ar1 sz1 k1 v1 u1 h0 n0) own_room_22_1f.cells own_room_22_1f.slots := by
  refine MetFree.of_bodySF (plainFor_of_name pn_22) hisR ?_
  intro p e s m args below meth c T Bd hml0 hP hK
  obtain ⟨rfl, hZ, hh⟩ := hP
  obtain ⟨hx, hB⟩ := And.intro Bd.exec Bd.bytes
  have hml : c.maxLocals = 4 := hml0
  have hown : s.vm.findClass "com/example/sandpiper/sandpiper/broker/AwaitingSync" = some m.cls := findClass_of_methodNamed Bd.named
  have hnm := (name_of_methodNamed Bd.named Bd.method).1
  have X : Stand p l e own_room_22_1f s m #[(.ref a), (.long q)] below meth c T [] 0 0 := Stand.of_body Bd
  have eT : T.heap = h0 := by rw [← hh, Bd.state]; rfl
  have W := @own_Wd a0 Z hw
  have N := Fr.nil n0
  have O := hO
  have K := Keep.refl h0 [d, ea]
  refine own_enter (ef_22_1f m a q) ?_
  show own_Goes _ _ _ _ (own_P s (own_Q_22_1f Z dc kd cr cc mr a q d ea k vs hd tl x1 lw1 r1 ar1 sz1 k1 v1 u1 h0 n0) own_room_22_1f.cells own_room_22_1f.slots)
  refine o_new X hx hZ hB hown (W 152 rfl) (W 1 rfl) (W 2 rfl) eT d22_0 (by decide) (by decide) fun T h1 b0 g1 X eT E1 A1 D1 => ?_
  have g_b0 := own_gn O g1
  have sz_b0 := own_gz K g1
  have K := K.ext E1
  have O := O.ext E1
  refine o_dup X hx hB d22_3 rfl ?_
  have f2 := D1 (Or.inl (W 22 rfl)) (ty := .int) (by decide)
  have f3 := D1 (Or.inl (W 25 rfl)) (ty := (.array (.object "java/lang/Object"))) (by decide)
  have f4 := D1 (Or.inl (W 45 rfl)) (ty := .int) (by decide)
  refine own_kQ (own_csp X hx hZ hB (W := 1) hown rfl (W 153 rfl) (W 4 rfl) (W 5 rfl) (W 2 rfl) (by decide) (rm_1 l Z a0 hw [] dc kd cr cc mr hG b0 (0 : Int32) (0 : Int32) _ n0 (own_zO O) O A1 f2 f3 f4 g_b0) (by decide) (by decide) eT hml rfl pd_0 rfl rfl rfl d22_4 (by decide) (by decide)) fun v T L5 hQ X => ?_
  obtain ⟨rfl, Nq5, Kq5, t5_0, t5_1, t5_2, t5_3⟩ := hQ
  have N := Fr.app N Nq5
  have K := K.trans Kq5 (allS (Or.inr sz_b0) all0)
  have O := O.keep Kq5 (allS g_b0 all0)
  refine o_astoreN X hx hB #[.val (.ref a), .val (.long q), .second, .val (.ref b0)] d22_7 rfl rfl ?_
  refine o_aloadN X hx hB d22_8 rfl rfl ?_
  have z6 := own_ne1 E_a.lt g1
  have f7 := (F_batches_a.ext E1).keep Kq5 (ninS z6 nin0)
  refine o_getF X hx hZ hB hown (W 86 rfl) Via.refl rfl f7 d22_9 fun T X eT => ?_
  have z8 := own_ne1 E_d.lt g1
  have f9 := (F_head_d.ext E1).keep Kq5 (ninS z8 nin0)
  have f10 := (F_tail_d.ext E1).keep Kq5 (ninS z8 nin0)
  have f11 := (E_d.ext E1).keep Kq5
  refine own_kP (own_ciu X hx hZ hB (W := 0) hown (W 154 rfl) (W 155 rfl) (W 156 rfl) (by decide) (by decide) (W 157 rfl) (W 158 rfl) (W 159 rfl) (W 160 rfl) (W 116 rfl) (W 161 rfl) (W 77 rfl) (by decide) (rm_23 l Z a0 hw [] dc kd cr cc mr hG d hd tl _ n0 (own_zO O) O f9 f10) (by decide) (by decide) eT f11 hml rfl pd_16 rfl rfl rfl d22_12 (by decide) (by decide)) rfl rfl fun T X eT => ?_
  refine o_ifNo X hx hB d22_17 (Jvm.Free.XT.i0_ne_f (by rw [if_neg hem1] : (if hd = tl then (1 : Int32) else (0 : Int32)) = 0)) ?_
  refine o_aloadN X hx hB d22_20 rfl rfl ?_
  refine o_getF X hx hZ hB hown (W 86 rfl) Via.refl eT f7 d22_21 fun T X eT => ?_
  have f12 := (F_elements_d.ext E1).keep Kq5 (ninS z8 nin0)
  have z13 := own_ne1 V_ea.2.2.2.lt g1
  have f14 := (V_ea.ext E1).keep Kq5 (ninS z13 nin0)
  refine own_kP (own_cif X hx hZ hB (W := 0) hown (W 162 rfl) (W 163 rfl) (W 164 rfl) (W 165 rfl) (W 166 rfl) (W 167 rfl) (W 168 rfl) (W 116 rfl) (W 169 rfl) (W 77 rfl) (by decide) (rm_24 l Z a0 hw [] dc kd cr cc mr hG d ea k vs hd tl x1 _ n0 (own_zO O) O f11 f12 f9 f10 f14 hhd1 hv1) (by decide) (by decide) eT f11 hml rfl pd_11 rfl rfl rfl d22_24 (by decide) (by decide)) rfl rfl fun T X eT => ?_
  have f15 := (E_x1.ext E1).keep Kq5
  refine o_cast X hx hZ hB hown (W 93 rfl) eT (Ins.of_exa f15 (W 178 rfl)) d22_29 fun T X eT => ?_
  have z16 := own_ne1 E_x1.lt g1
  have f17 := (F_lastWrite_x1.ext E1).keep Kq5 (ninS z16 nin0)
  have f18 := (F_kept_x1.ext E1).keep Kq5 (ninS z16 nin0)
  refine own_kP (own_cvi X hx hZ hB (W := 0) hown (W 179 rfl) (W 180 rfl) (W 182 rfl) (W 181 rfl) (W 183 rfl) (W 95 rfl) (by decide) (rm_27 l Z a0 hw [] dc kd cr cc mr hG x1 lw1 r1 _ n0 (own_zO O) O f15 f17 f18) (by decide) (by decide) eT f15 hml rfl pd_17 rfl rfl rfl d22_32 (by decide) (by decide)) rfl rfl fun T X eT => ?_
  refine o_lloadN X hx hB d22_35 rfl ?_
  refine o_lcmp X hx hB d22_36 ?_
  refine o_ifNo X hx hB d22_37 (Jvm.Free.XT.ll_gt_f hq1) ?_
  refine o_aloadN X hx hB d22_40 rfl rfl ?_
  refine o_aloadN X hx hB d22_41 rfl rfl ?_
  refine o_getF X hx hZ hB hown (W 86 rfl) Via.refl eT f7 d22_42 fun T X eT => ?_
  refine own_kQ (own_cif X hx hZ hB (W := 1) hown (W 203 rfl) (W 204 rfl) (W 205 rfl) (W 206 rfl) (W 207 rfl) (W 208 rfl) (W 209 rfl) (W 116 rfl) (W 210 rfl) (W 77 rfl) (by decide) (rm_31 l Z a0 hw [] dc kd cr cc mr hG d ea k vs hd tl x1 _ n0 (own_zO O) O f11 f12 f9 f10 f14 ne_d_ea g_d g_ea hhd1 hv1 hinc1) (by decide) (by decide) eT f11 hml rfl pd_11 rfl rfl rfl d22_45 (by decide) (by decide)) fun v T L19 hQ X => ?_
  obtain ⟨rfl, Nq19, Kq19, t19_0, t19_1, t19_2, t19_3, t19_4, t19_5⟩ := hQ
  have N := Fr.app N Nq19
  have K := K.trans Kq19 (allS (Or.inl (List.mem_of_getElem? (i := 0) rfl)) (allS (Or.inl (List.mem_of_getElem? (i := 1) rfl)) all0))
  have O := O.keep Kq19 (allS g_d (allS g_ea all0))
  have f20 := f15.keep Kq19
  refine o_cast X hx hZ hB hown (W 93 rfl) rfl (Ins.of_exa f20 (W 178 rfl)) d22_50 fun T X eT => ?_
  have f21 := ((V_ea.2.2.2.ext E1).keep Kq5).keep Kq19
  have z22 := Exa.ne f20 f21 (by decide)
  have z23 := Exa.ne f20 t19_0 (by decide)
  have f24 := f17.keep Kq19 (ninS z23 (ninS z22 nin0))
  have f25 := f18.keep Kq19 (ninS z23 (ninS z22 nin0))
  refine own_kP (own_cvi X hx hZ hB (W := 1) hown (W 216 rfl) (W 217 rfl) (W 219 rfl) (W 218 rfl) (W 220 rfl) (W 95 rfl) (by decide) (rm_33 l Z a0 hw [] dc kd cr cc mr hG x1 lw1 r1 _ n0 (own_zO O) O f20 f24 f25) (by decide) (by decide) eT f20 hml rfl pd_18 rfl rfl rfl d22_53 (by decide) (by decide)) rfl rfl fun T X eT => ?_
  have f26 := t5_0.keep Kq19
  have f27 := t5_1.keep Kq19 (ninS (Ne.symm z8) (ninS (Ne.symm z13) nin0))
  have f28 := t5_2.keep Kq19 (ninS (Ne.symm z8) (ninS (Ne.symm z13) nin0))
  have f29 := t5_3.keep Kq19 (ninS (Ne.symm z8) (ninS (Ne.symm z13) nin0))
  have f30 := ((E_r1.ext E1).keep Kq5).keep Kq19
  have z31 := own_ne1 E_r1.lt g1
  have z32 := Exa.ne f30 f21 (by decide)
  have z33 := Exa.ne f30 t19_0 (by decide)
  have f34 := ((F_elementData_r1.ext E1).keep Kq5 (ninS z31 nin0)).keep Kq19 (ninS z33 (ninS z32 nin0))
  have f35 := ((F_size_r1.ext E1).keep Kq5 (ninS z31 nin0)).keep Kq19 (ninS z33 (ninS z32 nin0))
  have z36 := own_ne1 V_ar1.2.2.2.lt g1
  have f37 := ((V_ar1.2.2.2.ext E1).keep Kq5).keep Kq19
  have z38 := Exa.ne f37 t19_0 (by decide)
  have f39 := ((V_ar1.ext E1).keep Kq5 (ninS z36 nin0)).keep Kq19 (ninS z38 (ninS (Ne.symm ne_ea_ar1) nin0))
  refine own_kQ (own_cif X hx hZ hB (W := 0) hown (W 221 rfl) (W 222 rfl) (W 223 rfl) (W 224 rfl) (W 225 rfl) (W 226 rfl) (W 227 rfl) (W 40 rfl) (W 228 rfl) (W 2 rfl) (by decide) (rm_34f l Z a0 hw [] dc kd cr cc mr hG b0 r1 (0 : Int32) ar1 sz1 k1 v1 u1 _ n0 (own_zO O) O f26 f27 f28 f29 f30 f34 f35 f39 (Ne.symm z31) g_b0 hn0_1 hn3_1 hle_1 hz_1 hus_1 hI_1 hnz_1 hgt_1 hg_1) (by decide) (by decide) eT f26 hml rfl pd_19 rfl rfl rfl d22_56 (by decide) (by decide)) fun v T L40 hQ X => ?_
  obtain ⟨be, ke, rfl, Nq40, Kq40, t40_0, t40_1, t40_2, t40_3, t40_4, t40_5, t40_6⟩ := hQ
  have g_be := Nat.le_trans (own_zO O) t40_5
  have sz_be := Nat.le_trans K.1 t40_5
  have N := Fr.app N Nq40
  have K := K.trans Kq40 (allS (Or.inr sz_b0) all0)
  have O := O.keep Kq40 (allS g_b0 all0)
  refine o_pop X hx hB d22_61 rfl ?_
  refine o_goto X hx hB d22_62 8 ?_
  refine o_aloadN X hx hB d22_8 rfl rfl ?_
  have f41 := (((E_a.ext E1).keep Kq5).keep Kq19).keep Kq40
  have f42 := f21.keep Kq40
  have z43 := Exa.ne f41 f42 (by decide)
  have f44 := t19_0.keep Kq40
  have z45 := Exa.ne f41 f44 (by decide)
  have f46 := (f7.keep Kq19 (ninS z45 (ninS z43 nin0))).keep Kq40 (ninS z6 nin0)
  refine o_getF X hx hZ hB hown (W 86 rfl) Via.refl rfl f46 d22_9 fun T X eT => ?_
  have f47 := t19_2.keep Kq40 (ninS z8 nin0)
  have f48 := t19_3.keep Kq40 (ninS z8 nin0)
  refine own_kP (own_ciu X hx hZ hB (W := 0) hown (W 154 rfl) (W 155 rfl) (W 156 rfl) (by decide) (by decide) (W 157 rfl) (W 158 rfl) (W 159 rfl) (W 160 rfl) (W 116 rfl) (W 161 rfl) (W 77 rfl) (by decide) (rm_23 l Z a0 hw [] dc kd cr cc mr hG d (hd + (1 : Int32)) tl _ n0 (own_zO O) O f47 f48) (by decide) (by decide) eT f44 hml rfl pd_16 rfl rfl rfl d22_12 (by decide) (by decide)) rfl rfl fun T X eT => ?_
  refine o_ifYes X hx hB d22_17 (Jvm.Free.XT.i0_ne_t (by rw [if_pos hend]; decide : ¬ ((if (hd + (1 : Int32)) = tl then (1 : Int32) else (0 : Int32)) = 0))) 65 ?_
  refine o_aloadN X hx hB d22_65 rfl rfl ?_
  have f49 := t19_1.keep Kq40 (ninS z8 nin0)
  have f50 := t19_4.keep Kq40 (ninS z13 nin0)
  exact own_retA X hx Bd.returns (hb hB d22_66) (BodyLoose.notSynchronized Bd) rfl rfl (by rw [eT]; exact ⟨b0, be, ke, rfl, N, K, t40_0, t40_1, t40_2, t40_3, sz_b0, t40_4, t40_6, sz_be, f44, f49, f47, f48, f50, t19_5⟩) (by decide) (by decide)
theorem d30_0 : decode prog_16_method_4_code 0 = .ok (.aload_n 0, 1) := by decide +kernel
theorem d30_1 : decode prog_16_method_4_code 1 = .ok (.ldc2_w 57, 3) := by decide +kernel
theorem d30_4 : decode prog_16_method_4_code 4 = .ok (.invokevirtual 59, 3) := by decide +kernel
theorem d30_7 : decode prog_16_method_4_code 7 = .ok (.areturn, 1) := by decide +kernel
theorem pd_20 : parseMethodDescriptor "(J)Ljava/util/List;" = some ⟨[.long], some (.object "java/util/List")⟩ := by decide +kernel
theorem pn_30 : plainName "com/example/sandpiper/sandpiper/broker/AwaitingSync" = true := by first | (simp [plainName, overriddenIn]; done) | decide +kernel
theorem ef_30_0 (m : MethodId) (a : Addr) : entryFrame m #[(.ref a)] 1 = mkF m 0 #[.val (.ref a)] [] := by first | (simp [entryFrame, mkF, argsToLocals, Value.category]; done) | rfl
abbrev own_room_30_0 : Room := { frames := 5, cells := 1, slots := 3, locals := 64 }
def own_Q_30_0 (Z : State) (dc : Addr) (kd : ClassId) (cr : Addr) (cc : Cell) (mr : Addr) (a d ea : Addr) (k : ClassId) (vs : List Value) (hd tl : Int32) (h0 : Heap) (n0 : Nat) (v : Option Value) (h : Heap) (L : List Loc) : Prop := ∃ b : Addr, v = (some (.ref b)) ∧ Fr n0 L ∧ Keep h0 h [] ∧ Exa Z h b "java/util/ArrayList" ∧ Fld Z h b "java/util/AbstractList" "modCount" "I" (.int (0 : Int32)) ∧ Fld Z h b "java/util/ArrayList" "elementData" "[Ljava/lang/Object;" (.ref dc) ∧ Fld Z h b "java/util/ArrayList" "size" "I" (.int (0 : Int32)) ∧ h0.size ≤ b
set_option maxRecDepth 65536 in
set_option maxHeartbeats 40000000 in
theorem rm_30_0 (l : Launch) (Z : State) (a0 : Array Value) (hw : own_Hw a0 Z) (ws : List Jvm.Cond) (dc : Addr) (kd : ClassId) (cr : Addr) (cc : Cell) (mr : Addr) (hG : own_G Z dc kd cr cc mr) (a d ea : Addr) (k : ClassId) (vs : List Value) (hd tl : Int32) (h0 : Heap) (n0 : Nat) (Z0 : n0 ≤ h0.size) (hO : Old Z n0 h0) (E_a : Exa Z h0 a "com/example/sandpiper/sandpiper/broker/AwaitingSync") (F_batches_a : Fld Z h0 a "com/example/sandpiper/sandpiper/broker/AwaitingSync" "batches" "Ljava/util/Deque;" (.ref d)) (E_d : Exa Z h0 d "java/util/ArrayDeque") (F_elements_d : Fld Z h0 d "java/util/ArrayDeque" "elements" "[Ljava/lang/Object;" (.ref ea)) (F_head_d : Fld Z h0 d "java/util/ArrayDeque" "head" "I" (.int hd)) (F_tail_d : Fld Z h0 d "java/util/ArrayDeque" "tail" "I" (.int tl)) (V_ea : own_AR Z h0 ea k (17 : Int32) vs) (ne_d_ea : d ≠ ea) (hend : hd = tl) :
    own_Met l (⟨"com/example/sandpiper/sandpiper/broker/AwaitingSync", "all", "()Ljava/util/List;"⟩ : MethodName) (Jvm.Cond.code (⟨"com/example/sandpiper/sandpiper/broker/AwaitingSync", "all", "()Ljava/util/List;"⟩ : MethodName) prog_16_method_4_code 1 (some (.object "java/util/List"))) ws own_room_30_0 #[(.ref a)] Z h0 (own_Q_30_0 Z dc kd cr cc mr a d ea k vs hd tl h0 n0) own_room_30_0.cells own_room_30_0.slots := by
  refine MetFree.of_bodySF (plainFor_of_name pn_30) hisR ?_
  intro p e s m args below meth c T Bd hml0 hP hK
  obtain ⟨rfl, hZ, hh⟩ := hP
  obtain ⟨hx, hB⟩ := And.intro Bd.exec Bd.bytes
  have hml : c.maxLocals = 1 := hml0
  have hown : s.vm.findClass "com/example/sandpiper/sandpiper/broker/AwaitingSync" = some m.cls := findClass_of_methodNamed Bd.named
  have hnm := (name_of_methodNamed Bd.named Bd.method).1
  have X : Stand p l e own_room_30_0 s m #[(.ref a)] below meth c T [] 0 0 := Stand.of_body Bd
  have eT : T.heap = h0 := by rw [← hh, Bd.state]; rfl
  have W := @own_Wd a0 Z hw
  have N := Fr.nil n0
  have O := hO
  have K := Keep.refl h0 []
  refine own_enter (ef_30_0 m a) ?_
  show own_Goes _ _ _ _ (own_P s (own_Q_30_0 Z dc kd cr cc mr a d ea k vs hd tl h0 n0) own_room_30_0.cells own_room_30_0.slots)
  refine o_aloadN X hx hB d30_0 rfl rfl ?_
  refine own_step (X.ldc2Long hx hown (mvT hZ (W 201 rfl)) (g := (mkF m 1 #[.val (.ref a)] [(.ref a)])) rfl (hb hB d30_1)) ?_
  show own_Goes p.tables e below (T.setTop (mkF m 4 #[.val (.ref a)] [(.long (9223372036854775807 : Int64)), (.ref a)])) _
  refine own_kQ (own_cvi X hx hZ hB (W := 0) hown (W 202 rfl) (W 148 rfl) (W 150 rfl) (W 149 rfl) (W 151 rfl) (W 70 rfl) (by decide) (rm_22_0 l Z a0 hw [] dc kd cr cc mr hG a (9223372036854775807 : Int64) d ea k vs hd tl _ n0 (own_zO O) O E_a F_batches_a E_d F_elements_d F_head_d F_tail_d V_ea ne_d_ea hend) (by decide) (by decide) eT E_a hml rfl pd_20 rfl rfl rfl d30_4 (by decide) (by decide)) fun v T L1 hQ X => ?_
  obtain ⟨b_4, rfl, Nq1, Kq1, t1_0, t1_1, t1_2, t1_3, t1_4⟩ := hQ
  have g_b_4 := Nat.le_trans (own_zO O) t1_4
  have sz_b_4 := Nat.le_trans K.1 t1_4
  have N := Fr.app N Nq1
  have K := K.trans Kq1 all0
  have O := O.keep Kq1 all0
  exact own_retA X hx Bd.returns (hb hB d30_7) (BodyLoose.notSynchronized Bd) rfl rfl ⟨b_4, rfl, N, K, t1_0, t1_1, t1_2, t1_3, sz_b_4⟩ (by decide) (by decide)
theorem ef_30_Ce (m : MethodId) (a : Addr) : entryFrame m #[(.ref a)] 1 = mkF m 0 #[.val (.ref a)] [] := by first | (simp [entryFrame, mkF, argsToLocals, Value.category]; done) | rfl
abbrev own_room_30_Ce : Room := { frames := 6, cells := 4, slots := 19, locals := 112 }
def own_Q_30_Ce (Z : State) (dc : Addr) (kd : ClassId) (cr : Addr) (cc : Cell) (mr : Addr) (a d ea : Addr) (k : ClassId) (vs : List Value) (hd tl : Int32) (x1 : Addr) (lw1 : Int64) (r1 ar1 : Addr) (sz1 : Int32) (k1 : ClassId) (v1 u1 : List Value) (x2 : Addr) (lw2 : Int64) (r2 : Addr) (h0 : Heap) (n0 : Nat) (v : Option Value) (h : Heap) (L : List Loc) : Prop := ∃ b : Addr, ∃ eb : Addr, ∃ ke0 : ClassId, v = (some (.ref b)) ∧ Fr n0 L ∧ Keep h0 h [d, ea] ∧ Exa Z h b "java/util/ArrayList" ∧ Fld Z h b "java/util/AbstractList" "modCount" "I" (.int (((0 : Int32) + (1 : Int32)) + (1 : Int32))) ∧ Fld Z h b "java/util/ArrayList" "elementData" "[Ljava/lang/Object;" (.ref eb) ∧ Fld Z h b "java/util/ArrayList" "size" "I" (.int ((0 : Int32) + sz1)) ∧ h0.size ≤ b ∧ own_AR Z h eb ke0 (10 : Int32) (u1 ++ List.replicate (10 - sz1.toNatClampNeg) Value.null) ∧ b ≠ eb ∧ h0.size ≤ eb ∧ Exa Z h d "java/util/ArrayDeque" ∧ Fld Z h d "java/util/ArrayDeque" "elements" "[Ljava/lang/Object;" (.ref ea) ∧ Fld Z h d "java/util/ArrayDeque" "head" "I" (.int ((hd + (1 : Int32)) + (1 : Int32))) ∧ Fld Z h d "java/util/ArrayDeque" "tail" "I" (.int tl) ∧ own_AR Z h ea k (17 : Int32) ((vs.set hd.toNatClampNeg .null).set (hd + (1 : Int32)).toNatClampNeg .null) ∧ d ≠ ea
set_option maxRecDepth 65536 in
set_option maxHeartbeats 40000000 in
theorem rm_30_Ce (l : Launch) (Z : State) (a0 : Array Value) (hw : own_Hw a0 Z) (ws : List Jvm.Cond) (dc : Addr) (kd : ClassId) (cr : Addr) (cc : Cell) (mr : Addr) (hG : own_G Z dc kd cr cc mr) (a d ea : Addr) (k : ClassId) (vs : List Value) (hd tl : Int32) (x1 : Addr) (lw1 : Int64) (r1 ar1 : Addr) (sz1 : Int32) (k1 : ClassId) (v1 u1 : List Value) (x2 : Addr) (lw2 : Int64) (r2 : Addr) (h0 : Heap) (n0 : Nat) (Z0 : n0 ≤ h0.size) (hO : Old Z n0 h0) (E_a : Exa Z h0 a "com/example/sandpiper/sandpiper/broker/AwaitingSync") (F_batches_a : Fld Z h0 a "com/example/sandpiper/sandpiper/broker/AwaitingSync" "batches" "Ljava/util/Deque;" (.ref d)) (E_d : Exa Z h0 d "java/util/ArrayDeque") (F_elements_d : Fld Z h0 d "java/util/ArrayDeque" "elements" "[Ljava/lang/Object;" (.ref ea)) (F_head_d : Fld Z h0 d "java/util/ArrayDeque" "head" "I" (.int hd)) (F_tail_d : Fld Z h0 d "java/util/ArrayDeque" "tail" "I" (.int tl)) (V_ea : own_AR Z h0 ea k (17 : Int32) vs) (ne_d_ea : d ≠ ea) (E_x1 : Exa Z h0 x1 "com/example/sandpiper/sandpiper/broker/AwaitingSync$Batch") (F_lastWrite_x1 : Fld Z h0 x1 "com/example/sandpiper/sandpiper/broker/AwaitingSync$Batch" "lastWrite" "J" (.long lw1)) (F_kept_x1 : Fld Z h0 x1 "com/example/sandpiper/sandpiper/broker/AwaitingSync$Batch" "kept" "Ljava/util/List;" (.ref r1)) (E_r1 : Exa Z h0 r1 "java/util/ArrayList") (F_elementData_r1 : Fld Z h0 r1 "java/util/ArrayList" "elementData" "[Ljava/lang/Object;" (.ref ar1)) (F_size_r1 : Fld Z h0 r1 "java/util/ArrayList" "size" "I" (.int sz1)) (V_ar1 : own_AR Z h0 ar1 k1 (10 : Int32) v1) (ne_ea_ar1 : ea ≠ ar1) (E_x2 : Exa Z h0 x2 "com/example/sandpiper/sandpiper/broker/AwaitingSync$Batch") (F_lastWrite_x2 : Fld Z h0 x2 "com/example/sandpiper/sandpiper/broker/AwaitingSync$Batch" "lastWrite" "J" (.long lw2)) (F_kept_x2 : Fld Z h0 x2 "com/example/sandpiper/sandpiper/broker/AwaitingSync$Batch" "kept" "Ljava/util/List;" (.ref r2)) (E_r2 : Exa Z h0 r2 "java/util/ArrayList") (F_elementData_r2 : Fld Z h0 r2 "java/util/ArrayList" "elementData" "[Ljava/lang/Object;" (.ref dc)) (F_size_r2 : Fld Z h0 r2 "java/util/ArrayList" "size" "I" (.int (0 : Int32))) (ne_x1_x2 : x1 ≠ x2) (g_d : n0 ≤ d) (g_ea : n0 ≤ ea) (hem1 : ¬ (hd = tl)) (hhd1 : ¬ hd < 0 ∧ hd < (17 : Int32)) (hv1 : vs.getD hd.toNatClampNeg .null = .ref x1) (hq1 : ¬ ((9223372036854775807 : Int64) < lw1)) (hinc1 : (hd + (1 : Int32)) < (17 : Int32)) (hn0_1 : ¬ sz1 < 0) (hn3_1 : sz1.toNatClampNeg ≤ 3) (hle_1 : (if sz1 < (10 : Int32) then sz1 else (10 : Int32)) = sz1) (hz_1 : sz1.toNatClampNeg ≤ (10 : Int32).toNatClampNeg) (hus_1 : u1 = (List.range sz1.toNatClampNeg).map fun i => v1.getD ((0 : Int32).toNatClampNeg + i) Value.null) (hI_1 : u1.length = sz1.toNatClampNeg ∧ ∀ u ∈ u1, ∃ y, u = Value.ref y ∧ Exa Z Z.heap y "java/lang/Integer") (hnz_1 : ¬ (sz1 = 0)) (hgt_1 : ((0 : Int32) - (0 : Int32)) < sz1) (hg_1 : ¬ ((10 : Int32) < ((0 : Int32) + sz1))) (hem2 : ¬ ((hd + (1 : Int32)) = tl)) (hhd2 : ¬ (hd + (1 : Int32)) < 0 ∧ (hd + (1 : Int32)) < (17 : Int32)) (hv2 : (vs.set hd.toNatClampNeg .null).getD (hd + (1 : Int32)).toNatClampNeg .null = .ref x2) (hq2 : ¬ ((9223372036854775807 : Int64) < lw2)) (hinc2 : ((hd + (1 : Int32)) + (1 : Int32)) < (17 : Int32)) (hend : ((hd + (1 : Int32)) + (1 : Int32)) = tl) :
    own_Met l (⟨"com/example/sandpiper/sandpiper/broker/AwaitingSync", "all", "()Ljava/util/List;"⟩ : MethodName) (Jvm.Cond.code (⟨"com/example/sandpiper/sandpiper/broker/AwaitingSync", "all", "()Ljava/util/List;"⟩ : MethodName) prog_16_method_4_code 1 (some (.object "java/util/List"))) ws own_room_30_Ce #[(.ref a)] Z h0 (own_Q_30_Ce Z dc kd cr cc mr a d ea k vs hd tl x1 lw1 r1 ar1 sz1 k1 v1 u1 x2 lw2 r2 h0 n0) own_room_30_Ce.cells own_room_30_Ce.slots := by
  refine MetFree.of_bodySF (plainFor_of_name pn_30) hisR ?_
  intro p e s m args below meth c T Bd hml0 hP hK
  obtain ⟨rfl, hZ, hh⟩ := hP
  obtain ⟨hx, hB⟩ := And.intro Bd.exec Bd.bytes
  have hml : c.maxLocals = 1 := hml0
  have hown : s.vm.findClass "com/example/sandpiper/sandpiper/broker/AwaitingSync" = some m.cls := findClass_of_methodNamed Bd.named
  have hnm := (name_of_methodNamed Bd.named Bd.method).1
  have X : Stand p l e own_room_30_Ce s m #[(.ref a)] below meth c T [] 0 0 := Stand.of_body Bd
  have eT : T.heap = h0 := by rw [← hh, Bd.state]; rfl
  have W := @own_Wd a0 Z hw
  have N := Fr.nil n0
  have O := hO
  have K := Keep.refl h0 [d, ea]
  refine own_enter (ef_30_Ce m a) ?_
  show own_Goes _ _ _ _ (own_P s (own_Q_30_Ce Z dc kd cr cc mr a d ea k vs hd tl x1 lw1 r1 ar1 sz1 k1 v1 u1 x2 lw2 r2 h0 n0) own_room_30_Ce.cells own_room_30_Ce.slots)
  refine o_aloadN X hx hB d30_0 rfl rfl ?_
  refine own_step (X.ldc2Long hx hown (mvT hZ (W 201 rfl)) (g := (mkF m 1 #[.val (.ref a)] [(.ref a)])) rfl (hb hB d30_1)) ?_
  show own_Goes p.tables e below (T.setTop (mkF m 4 #[.val (.ref a)] [(.long (9223372036854775807 : Int64)), (.ref a)])) _
  refine own_kQ (own_cvi X hx hZ hB (W := 0) hown (W 202 rfl) (W 148 rfl) (W 150 rfl) (W 149 rfl) (W 151 rfl) (W 70 rfl) (by decide) (rm_22_Ce l Z a0 hw [] dc kd cr cc mr hG a (9223372036854775807 : Int64) d ea k vs hd tl x1 lw1 r1 ar1 sz1 k1 v1 u1 x2 lw2 r2 _ n0 (own_zO O) O E_a F_batches_a E_d F_elements_d F_head_d F_tail_d V_ea ne_d_ea E_x1 F_lastWrite_x1 F_kept_x1 E_r1 F_elementData_r1 F_size_r1 V_ar1 ne_ea_ar1 E_x2 F_lastWrite_x2 F_kept_x2 E_r2 F_elementData_r2 F_size_r2 ne_x1_x2 g_d g_ea hem1 hhd1 hv1 hq1 hinc1 hn0_1 hn3_1 hle_1 hz_1 hus_1 hI_1 hnz_1 hgt_1 hg_1 hem2 hhd2 hv2 hq2 hinc2 hend) (by decide) (by decide) eT E_a hml rfl pd_20 rfl rfl rfl d30_4 (by decide) (by decide)) fun v T L1 hQ X => ?_
  obtain ⟨b_4, eb_4, ke0_4, rfl, Nq1, Kq1, t1_0, t1_1, t1_2, t1_3, t1_4, t1_5, t1_6, t1_7, t1_8, t1_9, t1_10, t1_11, t1_12, t1_13⟩ := hQ
  have g_b_4 := Nat.le_trans (own_zO O) t1_4
  have sz_b_4 := Nat.le_trans K.1 t1_4
  have g_eb_4 := Nat.le_trans (own_zO O) t1_7
  have sz_eb_4 := Nat.le_trans K.1 t1_7
  have N := Fr.app N Nq1
  have K := K.trans Kq1 (allS (Or.inl (List.mem_of_getElem? (i := 0) rfl)) (allS (Or.inl (List.mem_of_getElem? (i := 1) rfl)) all0))
  have O := O.keep Kq1 (allS g_d (allS g_ea all0))
  exact own_retA X hx Bd.returns (hb hB d30_7) (BodyLoose.notSynchronized Bd) rfl rfl ⟨b_4, eb_4, ke0_4, rfl, N, K, t1_0, t1_1, t1_2, t1_3, sz_b_4, t1_5, t1_6, sz_eb_4, t1_8, t1_9, t1_10, t1_11, t1_12, t1_13⟩ (by decide) (by decide)
theorem ef_30_Cr (m : MethodId) (a : Addr) : entryFrame m #[(.ref a)] 1 = mkF m 0 #[.val (.ref a)] [] := by first | (simp [entryFrame, mkF, argsToLocals, Value.category]; done) | rfl
abbrev own_room_30_Cr : Room := { frames := 6, cells := 4, slots := 19, locals := 112 }
def own_Q_30_Cr (Z : State) (dc : Addr) (kd : ClassId) (cr : Addr) (cc : Cell) (mr : Addr) (a d ea : Addr) (k : ClassId) (vs : List Value) (hd tl : Int32) (x1 : Addr) (lw1 : Int64) (r1 ar1 : Addr) (sz1 : Int32) (k1 : ClassId) (v1 u1 : List Value) (x2 : Addr) (lw2 : Int64) (r2 ar2 : Addr) (sz2 : Int32) (k2 : ClassId) (v2 u2 : List Value) (h0 : Heap) (n0 : Nat) (v : Option Value) (h : Heap) (L : List Loc) : Prop := ∃ b : Addr, ∃ eb : Addr, ∃ ke0 : ClassId, v = (some (.ref b)) ∧ Fr n0 L ∧ Keep h0 h [d, ea] ∧ Exa Z h b "java/util/ArrayList" ∧ Fld Z h b "java/util/AbstractList" "modCount" "I" (.int (((0 : Int32) + (1 : Int32)) + (1 : Int32))) ∧ Fld Z h b "java/util/ArrayList" "elementData" "[Ljava/lang/Object;" (.ref eb) ∧ Fld Z h b "java/util/ArrayList" "size" "I" (.int (((0 : Int32) + sz1) + sz2)) ∧ h0.size ≤ b ∧ own_AR Z h eb ke0 (10 : Int32) ((u1 ++ List.replicate (10 - sz1.toNatClampNeg) Value.null).take ((0 : Int32) + sz1).toNatClampNeg ++ u2 ++ (u1 ++ List.replicate (10 - sz1.toNatClampNeg) Value.null).drop (((0 : Int32) + sz1).toNatClampNeg + sz2.toNatClampNeg)) ∧ b ≠ eb ∧ h0.size ≤ eb ∧ Exa Z h d "java/util/ArrayDeque" ∧ Fld Z h d "java/util/ArrayDeque" "elements" "[Ljava/lang/Object;" (.ref ea) ∧ Fld Z h d "java/util/ArrayDeque" "head" "I" (.int ((hd + (1 : Int32)) + (1 : Int32))) ∧ Fld Z h d "java/util/ArrayDeque" "tail" "I" (.int tl) ∧ own_AR Z h ea k (17 : Int32) ((vs.set hd.toNatClampNeg .null).set (hd + (1 : Int32)).toNatClampNeg .null) ∧ d ≠ ea
set_option maxRecDepth 65536 in
set_option maxHeartbeats 40000000 in
theorem rm_30_Cr (l : Launch) (Z : State) (a0 : Array Value) (hw : own_Hw a0 Z) (ws : List Jvm.Cond) (dc : Addr) (kd : ClassId) (cr : Addr) (cc : Cell) (mr : Addr) (hG : own_G Z dc kd cr cc mr) (a d ea : Addr) (k : ClassId) (vs : List Value) (hd tl : Int32) (x1 : Addr) (lw1 : Int64) (r1 ar1 : Addr) (sz1 : Int32) (k1 : ClassId) (v1 u1 : List Value) (x2 : Addr) (lw2 : Int64) (r2 ar2 : Addr) (sz2 : Int32) (k2 : ClassId) (v2 u2 : List Value) (h0 : Heap) (n0 : Nat) (Z0 : n0 ≤ h0.size) (hO : Old Z n0 h0) (E_a : Exa Z h0 a "com/example/sandpiper/sandpiper/broker/AwaitingSync") (F_batches_a : Fld Z h0 a "com/example/sandpiper/sandpiper/broker/AwaitingSync" "batches" "Ljava/util/Deque;" (.ref d)) (E_d : Exa Z h0 d "java/util/ArrayDeque") (F_elements_d : Fld Z h0 d "java/util/ArrayDeque" "elements" "[Ljava/lang/Object;" (.ref ea)) (F_head_d : Fld Z h0 d "java/util/ArrayDeque" "head" "I" (.int hd)) (F_tail_d : Fld Z h0 d "java/util/ArrayDeque" "tail" "I" (.int tl)) (V_ea : own_AR Z h0 ea k (17 : Int32) vs) (ne_d_ea : d ≠ ea) (E_x1 : Exa Z h0 x1 "com/example/sandpiper/sandpiper/broker/AwaitingSync$Batch") (F_lastWrite_x1 : Fld Z h0 x1 "com/example/sandpiper/sandpiper/broker/AwaitingSync$Batch" "lastWrite" "J" (.long lw1)) (F_kept_x1 : Fld Z h0 x1 "com/example/sandpiper/sandpiper/broker/AwaitingSync$Batch" "kept" "Ljava/util/List;" (.ref r1)) (E_r1 : Exa Z h0 r1 "java/util/ArrayList") (F_elementData_r1 : Fld Z h0 r1 "java/util/ArrayList" "elementData" "[Ljava/lang/Object;" (.ref ar1)) (F_size_r1 : Fld Z h0 r1 "java/util/ArrayList" "size" "I" (.int sz1)) (V_ar1 : own_AR Z h0 ar1 k1 (10 : Int32) v1) (ne_ea_ar1 : ea ≠ ar1) (E_x2 : Exa Z h0 x2 "com/example/sandpiper/sandpiper/broker/AwaitingSync$Batch") (F_lastWrite_x2 : Fld Z h0 x2 "com/example/sandpiper/sandpiper/broker/AwaitingSync$Batch" "lastWrite" "J" (.long lw2)) (F_kept_x2 : Fld Z h0 x2 "com/example/sandpiper/sandpiper/broker/AwaitingSync$Batch" "kept" "Ljava/util/List;" (.ref r2)) (E_r2 : Exa Z h0 r2 "java/util/ArrayList") (F_elementData_r2 : Fld Z h0 r2 "java/util/ArrayList" "elementData" "[Ljava/lang/Object;" (.ref ar2)) (F_size_r2 : Fld Z h0 r2 "java/util/ArrayList" "size" "I" (.int sz2)) (V_ar2 : own_AR Z h0 ar2 k2 (10 : Int32) v2) (ne_ea_ar2 : ea ≠ ar2) (ne_x1_x2 : x1 ≠ x2) (g_d : n0 ≤ d) (g_ea : n0 ≤ ea) (hem1 : ¬ (hd = tl)) (hhd1 : ¬ hd < 0 ∧ hd < (17 : Int32)) (hv1 : vs.getD hd.toNatClampNeg .null = .ref x1) (hq1 : ¬ ((9223372036854775807 : Int64) < lw1)) (hinc1 : (hd + (1 : Int32)) < (17 : Int32)) (hn0_1 : ¬ sz1 < 0) (hn3_1 : sz1.toNatClampNeg ≤ 3) (hle_1 : (if sz1 < (10 : Int32) then sz1 else (10 : Int32)) = sz1) (hz_1 : sz1.toNatClampNeg ≤ (10 : Int32).toNatClampNeg) (hus_1 : u1 = (List.range sz1.toNatClampNeg).map fun i => v1.getD ((0 : Int32).toNatClampNeg + i) Value.null) (hI_1 : u1.length = sz1.toNatClampNeg ∧ ∀ u ∈ u1, ∃ y, u = Value.ref y ∧ Exa Z Z.heap y "java/lang/Integer") (hnz_1 : ¬ (sz1 = 0)) (hgt_1 : ((0 : Int32) - (0 : Int32)) < sz1) (hg_1 : ¬ ((10 : Int32) < ((0 : Int32) + sz1))) (hem2 : ¬ ((hd + (1 : Int32)) = tl)) (hhd2 : ¬ (hd + (1 : Int32)) < 0 ∧ (hd + (1 : Int32)) < (17 : Int32)) (hv2 : (vs.set hd.toNatClampNeg .null).getD (hd + (1 : Int32)).toNatClampNeg .null = .ref x2) (hq2 : ¬ ((9223372036854775807 : Int64) < lw2)) (hinc2 : ((hd + (1 : Int32)) + (1 : Int32)) < (17 : Int32)) (hn0_2 : ¬ sz2 < 0) (hn3_2 : sz2.toNatClampNeg ≤ 3) (hle_2 : (if sz2 < (10 : Int32) then sz2 else (10 : Int32)) = sz2) (hz_2 : sz2.toNatClampNeg ≤ (10 : Int32).toNatClampNeg) (hus_2 : u2 = (List.range sz2.toNatClampNeg).map fun i => v2.getD ((0 : Int32).toNatClampNeg + i) Value.null) (hI_2 : u2.length = sz2.toNatClampNeg ∧ ∀ u ∈ u2, ∃ y, u = Value.ref y ∧ Exa Z Z.heap y "java/lang/Integer") (hnz_2 : ¬ (sz2 = 0)) (hgt_2 : ¬ (((10 : Int32) - ((0 : Int32) + sz1)) < sz2)) (hi0_2 : ¬ ((0 : Int32) + sz1) < 0) (hin_2 : ((0 : Int32) + sz1).toNatClampNeg + sz2.toNatClampNeg ≤ (10 : Int32).toNatClampNeg) (hend : ((hd + (1 : Int32)) + (1 : Int32)) = tl) :
    own_Met l (⟨"com/example/sandpiper/sandpiper/broker/AwaitingSync", "all", "()Ljava/util/List;"⟩ : MethodName) (Jvm.Cond.code (⟨"com/example/sandpiper/sandpiper/broker/AwaitingSync", "all", "()Ljava/util/List;"⟩ : MethodName) prog_16_method_4_code 1 (some (.object "java/util/List"))) ws own_room_30_Cr #[(.ref a)] Z h0 (own_Q_30_Cr Z dc kd cr cc mr a d ea k vs hd tl x1 lw1 r1 ar1 sz1 k1 v1 u1 x2 lw2 r2 ar2 sz2 k2 v2 u2 h0 n0) own_room_30_Cr.cells own_room_30_Cr.slots := by
  refine MetFree.of_bodySF (plainFor_of_name pn_30) hisR ?_
  intro p e s m args below meth c T Bd hml0 hP hK
  obtain ⟨rfl, hZ, hh⟩ := hP
  obtain ⟨hx, hB⟩ := And.intro Bd.exec Bd.bytes
  have hml : c.maxLocals = 1 := hml0
  have hown : s.vm.findClass "com/example/sandpiper/sandpiper/broker/AwaitingSync" = some m.cls := findClass_of_methodNamed Bd.named
  have hnm := (name_of_methodNamed Bd.named Bd.method).1
  have X : Stand p l e own_room_30_Cr s m #[(.ref a)] below meth c T [] 0 0 := Stand.of_body Bd
  have eT : T.heap = h0 := by rw [← hh, Bd.state]; rfl
  have W := @own_Wd a0 Z hw
  have N := Fr.nil n0
  have O := hO
  have K := Keep.refl h0 [d, ea]
  refine own_enter (ef_30_Cr m a) ?_
  show own_Goes _ _ _ _ (own_P s (own_Q_30_Cr Z dc kd cr cc mr a d ea k vs hd tl x1 lw1 r1 ar1 sz1 k1 v1 u1 x2 lw2 r2 ar2 sz2 k2 v2 u2 h0 n0) own_room_30_Cr.cells own_room_30_Cr.slots)
  refine o_aloadN X hx hB d30_0 rfl rfl ?_
  refine own_step (X.ldc2Long hx hown (mvT hZ (W 201 rfl)) (g := (mkF m 1 #[.val (.ref a)] [(.ref a)])) rfl (hb hB d30_1)) ?_
  show own_Goes p.tables e below (T.setTop (mkF m 4 #[.val (.ref a)] [(.long (9223372036854775807 : Int64)), (.ref a)])) _
  refine own_kQ (own_cvi X hx hZ hB (W := 0) hown (W 202 rfl) (W 148 rfl) (W 150 rfl) (W 149 rfl) (W 151 rfl) (W 70 rfl) (by decide) (rm_22_Cr l Z a0 hw [] dc kd cr cc mr hG a (9223372036854775807 : Int64) d ea k vs hd tl x1 lw1 r1 ar1 sz1 k1 v1 u1 x2 lw2 r2 ar2 sz2 k2 v2 u2 _ n0 (own_zO O) O E_a F_batches_a E_d F_elements_d F_head_d F_tail_d V_ea ne_d_ea E_x1 F_lastWrite_x1 F_kept_x1 E_r1 F_elementData_r1 F_size_r1 V_ar1 ne_ea_ar1 E_x2 F_lastWrite_x2 F_kept_x2 E_r2 F_elementData_r2 F_size_r2 V_ar2 ne_ea_ar2 ne_x1_x2 g_d g_ea hem1 hhd1 hv1 hq1 hinc1 hn0_1 hn3_1 hle_1 hz_1 hus_1 hI_1 hnz_1 hgt_1 hg_1 hem2 hhd2 hv2 hq2 hinc2 hn0_2 hn3_2 hle_2 hz_2 hus_2 hI_2 hnz_2 hgt_2 hi0_2 hin_2 hend) (by decide) (by decide) eT E_a hml rfl pd_20 rfl rfl rfl d30_4 (by decide) (by decide)) fun v T L1 hQ X => ?_
  obtain ⟨b_4, eb_4, ke0_4, rfl, Nq1, Kq1, t1_0, t1_1, t1_2, t1_3, t1_4, t1_5, t1_6, t1_7, t1_8, t1_9, t1_10, t1_11, t1_12, t1_13⟩ := hQ
  have g_b_4 := Nat.le_trans (own_zO O) t1_4
  have sz_b_4 := Nat.le_trans K.1 t1_4
  have g_eb_4 := Nat.le_trans (own_zO O) t1_7
  have sz_eb_4 := Nat.le_trans K.1 t1_7
  have N := Fr.app N Nq1
  have K := K.trans Kq1 (allS (Or.inl (List.mem_of_getElem? (i := 0) rfl)) (allS (Or.inl (List.mem_of_getElem? (i := 1) rfl)) all0))
  have O := O.keep Kq1 (allS g_d (allS g_ea all0))
  exact own_retA X hx Bd.returns (hb hB d30_7) (BodyLoose.notSynchronized Bd) rfl rfl ⟨b_4, eb_4, ke0_4, rfl, N, K, t1_0, t1_1, t1_2, t1_3, sz_b_4, t1_5, t1_6, sz_eb_4, t1_8, t1_9, t1_10, t1_11, t1_12, t1_13⟩ (by decide) (by decide)
theorem ef_30_1e (m : MethodId) (a : Addr) : entryFrame m #[(.ref a)] 1 = mkF m 0 #[.val (.ref a)] [] := by first | (simp [entryFrame, mkF, argsToLocals, Value.category]; done) | rfl
abbrev own_room_30_1e : Room := { frames := 6, cells := 2, slots := 6, locals := 112 }
def own_Q_30_1e (Z : State) (dc : Addr) (kd : ClassId) (cr : Addr) (cc : Cell) (mr : Addr) (a d ea : Addr) (k : ClassId) (vs : List Value) (hd tl : Int32) (x1 : Addr) (lw1 : Int64) (r1 : Addr) (h0 : Heap) (n0 : Nat) (v : Option Value) (h : Heap) (L : List Loc) : Prop := ∃ b : Addr, v = (some (.ref b)) ∧ Fr n0 L ∧ Keep h0 h [d, ea] ∧ Exa Z h b "java/util/ArrayList" ∧ Fld Z h b "java/util/AbstractList" "modCount" "I" (.int ((0 : Int32) + (1 : Int32))) ∧ Fld Z h b "java/util/ArrayList" "elementData" "[Ljava/lang/Object;" (.ref dc) ∧ Fld Z h b "java/util/ArrayList" "size" "I" (.int (0 : Int32)) ∧ h0.size ≤ b ∧ Exa Z h d "java/util/ArrayDeque" ∧ Fld Z h d "java/util/ArrayDeque" "elements" "[Ljava/lang/Object;" (.ref ea) ∧ Fld Z h d "java/util/ArrayDeque" "head" "I" (.int (hd + (1 : Int32))) ∧ Fld Z h d "java/util/ArrayDeque" "tail" "I" (.int tl) ∧ own_AR Z h ea k (17 : Int32) (vs.set hd.toNatClampNeg .null) ∧ d ≠ ea
set_option maxRecDepth 65536 in
set_option maxHeartbeats 40000000 in
theorem rm_30_1e (l : Launch) (Z : State) (a0 : Array Value) (hw : own_Hw a0 Z) (ws : List Jvm.Cond) (dc : Addr) (kd : ClassId) (cr : Addr) (cc : Cell) (mr : Addr) (hG : own_G Z dc kd cr cc mr) (a d ea : Addr) (k : ClassId) (vs : List Value) (hd tl : Int32) (x1 : Addr) (lw1 : Int64) (r1 : Addr) (h0 : Heap) (n0 : Nat) (Z0 : n0 ≤ h0.size) (hO : Old Z n0 h0) (E_a : Exa Z h0 a "com/example/sandpiper/sandpiper/broker/AwaitingSync") (F_batches_a : Fld Z h0 a "com/example/sandpiper/sandpiper/broker/AwaitingSync" "batches" "Ljava/util/Deque;" (.ref d)) (E_d : Exa Z h0 d "java/util/ArrayDeque") (F_elements_d : Fld Z h0 d "java/util/ArrayDeque" "elements" "[Ljava/lang/Object;" (.ref ea)) (F_head_d : Fld Z h0 d "java/util/ArrayDeque" "head" "I" (.int hd)) (F_tail_d : Fld Z h0 d "java/util/ArrayDeque" "tail" "I" (.int tl)) (V_ea : own_AR Z h0 ea k (17 : Int32) vs) (ne_d_ea : d ≠ ea) (E_x1 : Exa Z h0 x1 "com/example/sandpiper/sandpiper/broker/AwaitingSync$Batch") (F_lastWrite_x1 : Fld Z h0 x1 "com/example/sandpiper/sandpiper/broker/AwaitingSync$Batch" "lastWrite" "J" (.long lw1)) (F_kept_x1 : Fld Z h0 x1 "com/example/sandpiper/sandpiper/broker/AwaitingSync$Batch" "kept" "Ljava/util/List;" (.ref r1)) (E_r1 : Exa Z h0 r1 "java/util/ArrayList") (F_elementData_r1 : Fld Z h0 r1 "java/util/ArrayList" "elementData" "[Ljava/lang/Object;" (.ref dc)) (F_size_r1 : Fld Z h0 r1 "java/util/ArrayList" "size" "I" (.int (0 : Int32))) (g_d : n0 ≤ d) (g_ea : n0 ≤ ea) (hem1 : ¬ (hd = tl)) (hhd1 : ¬ hd < 0 ∧ hd < (17 : Int32)) (hv1 : vs.getD hd.toNatClampNeg .null = .ref x1) (hq1 : ¬ ((9223372036854775807 : Int64) < lw1)) (hinc1 : (hd + (1 : Int32)) < (17 : Int32)) (hend : (hd + (1 : Int32)) = tl) :
    own_Met l (⟨"com/example/sandpiper/sandpiper/broker/AwaitingSync", "all", "()Ljava/util/List;"⟩ : MethodName) (Jvm.Cond.code (⟨"com/example/sandpiper/sandpiper/broker/AwaitingSync", "all", "()Ljava/util/List;"⟩ : MethodName) prog_16_method_4_code 1 (some (.object "java/util/List"))) ws own_room_30_1e #[(.ref a)] Z h0 (own_Q_30_1e Z dc kd cr cc mr a d ea k vs hd tl x1 lw1 r1 h0 n0) own_room_30_1e.cells own_room_30_1e.slots := by
  refine MetFree.of_bodySF (plainFor_of_name pn_30) hisR ?_
  intro p e s m args below meth c T Bd hml0 hP hK
  obtain ⟨rfl, hZ, hh⟩ := hP
  obtain ⟨hx, hB⟩ := And.intro Bd.exec Bd.bytes
  have hml : c.maxLocals = 1 := hml0
  have hown : s.vm.findClass "com/example/sandpiper/sandpiper/broker/AwaitingSync" = some m.cls := findClass_of_methodNamed Bd.named
  have hnm := (name_of_methodNamed Bd.named Bd.method).1
  have X : Stand p l e own_room_30_1e s m #[(.ref a)] below meth c T [] 0 0 := Stand.of_body Bd
  have eT : T.heap = h0 := by rw [← hh, Bd.state]; rfl
  have W := @own_Wd a0 Z hw
  have N := Fr.nil n0
  have O := hO
  have K := Keep.refl h0 [d, ea]
  refine own_enter (ef_30_1e m a) ?_
  show own_Goes _ _ _ _ (own_P s (own_Q_30_1e Z dc kd cr cc mr a d ea k vs hd tl x1 lw1 r1 h0 n0) own_room_30_1e.cells own_room_30_1e.slots)
  refine o_aloadN X hx hB d30_0 rfl rfl ?_
  refine own_step (X.ldc2Long hx hown (mvT hZ (W 201 rfl)) (g := (mkF m 1 #[.val (.ref a)] [(.ref a)])) rfl (hb hB d30_1)) ?_
  show own_Goes p.tables e below (T.setTop (mkF m 4 #[.val (.ref a)] [(.long (9223372036854775807 : Int64)), (.ref a)])) _
  refine own_kQ (own_cvi X hx hZ hB (W := 0) hown (W 202 rfl) (W 148 rfl) (W 150 rfl) (W 149 rfl) (W 151 rfl) (W 70 rfl) (by decide) (rm_22_1e l Z a0 hw [] dc kd cr cc mr hG a (9223372036854775807 : Int64) d ea k vs hd tl x1 lw1 r1 _ n0 (own_zO O) O E_a F_batches_a E_d F_elements_d F_head_d F_tail_d V_ea ne_d_ea E_x1 F_lastWrite_x1 F_kept_x1 E_r1 F_elementData_r1 F_size_r1 g_d g_ea hem1 hhd1 hv1 hq1 hinc1 hend) (by decide) (by decide) eT E_a hml rfl pd_20 rfl rfl rfl d30_4 (by decide) (by decide)) fun v T L1 hQ X => ?_
  obtain ⟨b_4, rfl, Nq1, Kq1, t1_0, t1_1, t1_2, t1_3, t1_4, t1_5, t1_6, t1_7, t1_8, t1_9, t1_10⟩ := hQ
  have g_b_4 := Nat.le_trans (own_zO O) t1_4
  have sz_b_4 := Nat.le_trans K.1 t1_4
  have N := Fr.app N Nq1
  have K := K.trans Kq1 (allS (Or.inl (List.mem_of_getElem? (i := 0) rfl)) (allS (Or.inl (List.mem_of_getElem? (i := 1) rfl)) all0))
  have O := O.keep Kq1 (allS g_d (allS g_ea all0))
  exact own_retA X hx Bd.returns (hb hB d30_7) (BodyLoose.notSynchronized Bd) rfl rfl ⟨b_4, rfl, N, K, t1_0, t1_1, t1_2, t1_3, sz_b_4, t1_5, t1_6, t1_7, t1_8, t1_9, t1_10⟩ (by decide) (by decide)
theorem ef_30_1f (m : MethodId) (a : Addr) : entryFrame m #[(.ref a)] 1 = mkF m 0 #[.val (.ref a)] [] := by first | (simp [entryFrame, mkF, argsToLocals, Value.category]; done) | rfl
abbrev own_room_30_1f : Room := { frames := 6, cells := 3, slots := 16, locals := 112 }
def own_Q_30_1f (Z : State) (dc : Addr) (kd : ClassId) (cr : Addr) (cc : Cell) (mr : Addr) (a d ea : Addr) (k : ClassId) (vs : List Value) (hd tl : Int32) (x1 : Addr) (lw1 : Int64) (r1 ar1 : Addr) (sz1 : Int32) (k1 : ClassId) (v1 u1 : List Value) (h0 : Heap) (n0 : Nat) (v : Option Value) (h : Heap) (L : List Loc) : Prop := ∃ b : Addr, ∃ eb : Addr, ∃ ke0 : ClassId, v = (some (.ref b)) ∧ Fr n0 L ∧ Keep h0 h [d, ea] ∧ Exa Z h b "java/util/ArrayList" ∧ Fld Z h b "java/util/AbstractList" "modCount" "I" (.int ((0 : Int32) + (1 : Int32))) ∧ Fld Z h b "java/util/ArrayList" "elementData" "[Ljava/lang/Object;" (.ref eb) ∧ Fld Z h b "java/util/ArrayList" "size" "I" (.int ((0 : Int32) + sz1)) ∧ h0.size ≤ b ∧ own_AR Z h eb ke0 (10 : Int32) (u1 ++ List.replicate (10 - sz1.toNatClampNeg) Value.null) ∧ b ≠ eb ∧ h0.size ≤ eb ∧ Exa Z h d "java/util/ArrayDeque" ∧ Fld Z h d "java/util/ArrayDeque" "elements" "[Ljava/lang/Object;" (.ref ea) ∧ Fld Z h d "java/util/ArrayDeque" "head" "I" (.int (hd + (1 : Int32))) ∧ Fld Z h d "java/util/ArrayDeque" "tail" "I" (.int tl) ∧ own_AR Z h ea k (17 : Int32) (vs.set hd.toNatClampNeg .null) ∧ d ≠ ea
set_option maxRecDepth 65536 in
set_option maxHeartbeats 40000000 in
theorem rm_30_1f (l : Launch) (Z : State) (a0 : Array Value) (hw : own_Hw a0 Z) (ws : List Jvm.Cond) (dc : Addr) (kd : ClassId) (cr : Addr) (cc : Cell) (mr : Addr) (hG : own_G Z dc kd cr cc mr) (a d ea : Addr) (k : ClassId) (vs : List Value) (hd tl : Int32) (x1 : Addr) (lw1 : Int64) (r1 ar1 : Addr) (sz1 : Int32) (k1 : ClassId) (v1 u1 : List Value) (h0 : Heap) (n0 : Nat) (Z0 : n0 ≤ h0.size) (hO : Old Z n0 h0) (E_a : Exa Z h0 a "com/example/sandpiper/sandpiper/broker/AwaitingSync") (F_batches_a : Fld Z h0 a "com/example/sandpiper/sandpiper/broker/AwaitingSync" "batches" "Ljava/util/Deque;" (.ref d)) (E_d : Exa Z h0 d "java/util/ArrayDeque") (F_elements_d : Fld Z h0 d "java/util/ArrayDeque" "elements" "[Ljava/lang/Object;" (.ref ea)) (F_head_d : Fld Z h0 d "java/util/ArrayDeque" "head" "I" (.int hd)) (F_tail_d : Fld Z h0 d "java/util/ArrayDeque" "tail" "I" (.int tl)) (V_ea : own_AR Z h0 ea k (17 : Int32) vs) (ne_d_ea : d ≠ ea) (E_x1 : Exa Z h0 x1 "com/example/sandpiper/sandpiper/broker/AwaitingSync$Batch") (F_lastWrite_x1 : Fld Z h0 x1 "com/example/sandpiper/sandpiper/broker/AwaitingSync$Batch" "lastWrite" "J" (.long lw1)) (F_kept_x1 : Fld Z h0 x1 "com/example/sandpiper/sandpiper/broker/AwaitingSync$Batch" "kept" "Ljava/util/List;" (.ref r1)) (E_r1 : Exa Z h0 r1 "java/util/ArrayList") (F_elementData_r1 : Fld Z h0 r1 "java/util/ArrayList" "elementData" "[Ljava/lang/Object;" (.ref ar1)) (F_size_r1 : Fld Z h0 r1 "java/util/ArrayList" "size" "I" (.int sz1)) (V_ar1 : own_AR Z h0 ar1 k1 (10 : Int32) v1) (ne_ea_ar1 : ea ≠ ar1) (g_d : n0 ≤ d) (g_ea : n0 ≤ ea) (hem1 : ¬ (hd = tl)) (hhd1 : ¬ hd < 0 ∧ hd < (17 : Int32)) (hv1 : vs.getD hd.toNatClampNeg .null = .ref x1) (hq1 : ¬ ((9223372036854775807 : Int64) < lw1)) (hinc1 : (hd + (1 : Int32)) < (17 : Int32)) (hn0_1 : ¬ sz1 < 0) (hn3_1 : sz1.toNatClampNeg ≤ 3) (hle_1 : (if sz1 < (10 : Int32) then sz1 else (10 : Int32)) = sz1) (hz_1 : sz1.toNatClampNeg ≤ (10 : Int32).toNatClampNeg) (hus_1 : u1 = (List.range sz1.toNatClampNeg).map fun i => v1.getD ((0 : Int32).toNatClampNeg + i) Value.null) (hI_1 : u1.length = sz1.toNatClampNeg ∧ ∀ u ∈ u1, ∃ y, u = Value.ref y ∧ Exa Z Z.heap y "java/lang/Integer") (hnz_1 : ¬ (sz1 = 0)) (hgt_1 : ((0 : Int32) - (0 : Int32)) < sz1) (hg_1 : ¬ ((10 : Int32) < ((0 : Int32) + sz1))) (hend : (hd + (1 : Int32)) = tl) :
    own_Met l (⟨"com/example/sandpiper/sandpiper/broker/AwaitingSync", "all", "()Ljava/util/List;"⟩ : MethodName) (Jvm.Cond.code (⟨"com/example/sandpiper/sandpiper/broker/AwaitingSync", "all", "()Ljava/util/List;"⟩ : MethodName) prog_16_method_4_code 1 (some (.object "java/util/List"))) ws own_room_30_1f #[(.ref a)] Z h0 (own_Q_30_1f Z dc kd cr cc mr a d ea k vs hd tl x1 lw1 r1 ar1 sz1 k1 v1 u1 h0 n0) own_room_30_1f.cells own_room_30_1f.slots := by
  refine MetFree.of_bodySF (plainFor_of_name pn_30) hisR ?_
  intro p e s m args below meth c T Bd hml0 hP hK
  obtain ⟨rfl, hZ, hh⟩ := hP
  obtain ⟨hx, hB⟩ := And.intro Bd.exec Bd.bytes
  have hml : c.maxLocals = 1 := hml0
  have hown : s.vm.findClass "com/example/sandpiper/sandpiper/broker/AwaitingSync" = some m.cls := findClass_of_methodNamed Bd.named
  have hnm := (name_of_methodNamed Bd.named Bd.method).1
  have X : Stand p l e own_room_30_1f s m #[(.ref a)] below meth c T [] 0 0 := Stand.of_body Bd
  have eT : T.heap = h0 := by rw [← hh, Bd.state]; rfl
  have W := @own_Wd a0 Z hw
  have N := Fr.nil n0
  have O := hO
  have K := Keep.refl h0 [d, ea]
  refine own_enter (ef_30_1f m a) ?_
  show own_Goes _ _ _ _ (own_P s (own_Q_30_1f Z dc kd cr cc mr a d ea k vs hd tl x1 lw1 r1 ar1 sz1 k1 v1 u1 h0 n0) own_room_30_1f.cells own_room_30_1f.slots)
  refine o_aloadN X hx hB d30_0 rfl rfl ?_
  refine own_step (X.ldc2Long hx hown (mvT hZ (W 201 rfl)) (g := (mkF m 1 #[.val (.ref a)] [(.ref a)])) rfl (hb hB d30_1)) ?_
  show own_Goes p.tables e below (T.setTop (mkF m 4 #[.val (.ref a)] [(.long (9223372036854775807 : Int64)), (.ref a)])) _
  refine own_kQ (own_cvi X hx hZ hB (W := 0) hown (W 202 rfl) (W 148 rfl) (W 150 rfl) (W 149 rfl) (W 151 rfl) (W 70 rfl) (by decide) (rm_22_1f l Z a0 hw [] dc kd cr cc mr hG a (9223372036854775807 : Int64) d ea k vs hd tl x1 lw1 r1 ar1 sz1 k1 v1 u1 _ n0 (own_zO O) O E_a F_batches_a E_d F_elements_d F_head_d F_tail_d V_ea ne_d_ea E_x1 F_lastWrite_x1 F_kept_x1 E_r1 F_elementData_r1 F_size_r1 V_ar1 ne_ea_ar1 g_d g_ea hem1 hhd1 hv1 hq1 hinc1 hn0_1 hn3_1 hle_1 hz_1 hus_1 hI_1 hnz_1 hgt_1 hg_1 hend) (by decide) (by decide) eT E_a hml rfl pd_20 rfl rfl rfl d30_4 (by decide) (by decide)) fun v T L1 hQ X => ?_
  obtain ⟨b_4, eb_4, ke0_4, rfl, Nq1, Kq1, t1_0, t1_1, t1_2, t1_3, t1_4, t1_5, t1_6, t1_7, t1_8, t1_9, t1_10, t1_11, t1_12, t1_13⟩ := hQ
  have g_b_4 := Nat.le_trans (own_zO O) t1_4
  have sz_b_4 := Nat.le_trans K.1 t1_4
  have g_eb_4 := Nat.le_trans (own_zO O) t1_7
  have sz_eb_4 := Nat.le_trans K.1 t1_7
  have N := Fr.app N Nq1
  have K := K.trans Kq1 (allS (Or.inl (List.mem_of_getElem? (i := 0) rfl)) (allS (Or.inl (List.mem_of_getElem? (i := 1) rfl)) all0))
  have O := O.keep Kq1 (allS g_d (allS g_ea all0))
  exact own_retA X hx Bd.returns (hb hB d30_7) (BodyLoose.notSynchronized Bd) rfl rfl ⟨b_4, eb_4, ke0_4, rfl, N, K, t1_0, t1_1, t1_2, t1_3, sz_b_4, t1_5, t1_6, sz_eb_4, t1_8, t1_9, t1_10, t1_11, t1_12, t1_13⟩ (by decide) (by decide)
theorem pd_21 : parseMethodDescriptor "(I)Ljava/lang/Integer;" = some ⟨[.int], some (.object "java/lang/Integer")⟩ := by decide +kernel
theorem pd_22 : parseMethodDescriptor "(Ljava/util/List;Ljava/util/List;)Z" = some ⟨[(.object "java/util/List"), (.object "java/util/List")], some .boolean⟩ := by decide +kernel
theorem pn_0 : plainName "com/example/sandpiper/sandpiper/broker/AwaitingSyncAddPinLaw" = true := by first | (simp [plainName, overriddenIn]; done) | decide +kernel
theorem ef_0_00 (m : MethodId) (pa : Int64) (pb : Int64) (ps : Int64) (fl : Int32) : entryFrame m #[(.long pa), (.long pb), (.long ps), (.int fl)] maxLocals = mkF m 0 #[.val (.long pa), .second, .val (.long pb), .second, .val (.long ps), .second, .val (.int fl), .unset, .unset, .unset, .unset, .unset, .unset, .unset, .unset, .unset, .unset, .unset, .unset] [] := by first | (simp [entryFrame, mkF, argsToLocals, Value.category, maxLocals]; done) | rfl
set_option maxRecDepth 65536 in
set_option maxHeartbeats 40000000 in
theorem rm_0_00 (l : Launch) (Z : State) (a0 : Array Value) (hw : own_Hw a0 Z) (ws : List Jvm.Cond) (dc : Addr) (kd : ClassId) (cr : Addr) (cc : Cell) (mr : Addr) (hG : own_G Z dc kd cr cc mr) (pa pb ps : Int64) (fl : Int32) (i10 i11 i20 : Addr) (vv10 vv11 vv20 : Int32) (h0 : Heap) (n0 : Nat) (Z0 : n0 ≤ h0.size) (hO : Old Z n0 h0) (hin10 : ¬ (((10 : Int32) + (128 : Int32)) < 0 ∨ cc.slots.size ≤ ((10 : Int32) + (128 : Int32)).toNatClampNeg)) (hs10 : cc.slots[((10 : Int32) + (128 : Int32)).toNatClampNeg]? = some (.ref i10)) (hX10 : Exa Z Z.heap i10 "java/lang/Integer") (hV10 : Fld Z Z.heap i10 "java/lang/Integer" "value" "I" (.int vv10)) (hin11 : ¬ (((11 : Int32) + (128 : Int32)) < 0 ∨ cc.slots.size ≤ ((11 : Int32) + (128 : Int32)).toNatClampNeg)) (hs11 : cc.slots[((11 : Int32) + (128 : Int32)).toNatClampNeg]? = some (.ref i11)) (hX11 : Exa Z Z.heap i11 "java/lang/Integer") (hV11 : Fld Z Z.heap i11 "java/lang/Integer" "value" "I" (.int vv11)) (hin20 : ¬ (((20 : Int32) + (128 : Int32)) < 0 ∨ cc.slots.size ≤ ((20 : Int32) + (128 : Int32)).toNatClampNeg)) (hs20 : cc.slots[((20 : Int32) + (128 : Int32)).toNatClampNeg]? = some (.ref i20)) (hX20 : Exa Z Z.heap i20 "java/lang/Integer") (hV20 : Fld Z Z.heap i20 "java/lang/Integer" "value" "I" (.int vv20)) (hT : (fl &&& (1 : Int32)) = 0) (hS : (fl &&& (2 : Int32)) = 0) :
    own_Met l x (Jvm.Cond.code x code maxLocals ret) ws room_1 #[(.long pa), (.long pb), (.long ps), (.int fl)] Z h0 (own_Ql (some (.int (1 : Int32))) n0) 48 320 := by
  refine MetFree.of_bodySF (plainFor_of_name pn_0) hisR ?_
  intro p e s m args below meth c T Bd hml0 hP hK
  obtain ⟨rfl, hZ, hh⟩ := hP
  obtain ⟨hx, hB⟩ := And.intro Bd.exec Bd.bytes
  have hml : c.maxLocals = 19 := hml0
  have hown : s.vm.findClass "com/example/sandpiper/sandpiper/broker/AwaitingSyncAddPinLaw" = some m.cls := findClass_of_methodNamed Bd.named
  have hnm := (name_of_methodNamed Bd.named Bd.method).1
  have X : Stand p l e room_1 s m #[(.long pa), (.long pb), (.long ps), (.int fl)] below meth c T [] 0 0 := Stand.of_body Bd
  have eT : T.heap = h0 := by rw [← hh, Bd.state]; rfl
  have W := @own_Wd a0 Z hw
  have N := Fr.nil n0
  have O := hO
  refine own_enter (ef_0_00 m pa pb ps fl) ?_
  show own_Goes _ _ _ _ (own_P s (own_Ql (some (.int (1 : Int32))) n0) 48 320)
  refine o_iload X hx hB at_0 rfl ?_
  refine o_iconst X hx hB at_2 (1) ?_
  refine o_iand X hx hB at_3 ?_
  refine o_ifYes X hx hB at_4 (Jvm.Free.XT.i0_eq_t hT) 11 ?_
  refine o_iconst X hx hB at_11 (0) ?_
  refine o_istore X hx hB #[.val (.long pa), .second, .val (.long pb), .second, .val (.long ps), .second, .val (.int fl), .val (.int (0 : Int32)), .unset, .unset, .unset, .unset, .unset, .unset, .unset, .unset, .unset, .unset, .unset] at_12 rfl ?_
  refine o_iload X hx hB at_14 rfl ?_
  refine o_iconst X hx hB at_16 (2) ?_
  refine o_iand X hx hB at_17 ?_
  refine o_ifYes X hx hB at_18 (Jvm.Free.XT.i0_eq_t hS) 25 ?_
  refine o_iconst X hx hB at_25 (0) ?_
  refine o_istore X hx hB #[.val (.long pa), .second, .val (.long pb), .second, .val (.long ps), .second, .val (.int fl), .val (.int (0 : Int32)), .val (.int (0 : Int32)), .unset, .unset, .unset, .unset, .unset, .unset, .unset, .unset, .unset, .unset] at_26 rfl ?_
  refine o_new X hx hZ hB hown (W 0 rfl) (W 1 rfl) (W 2 rfl) eT at_28 (by decide) (by decide) fun T h1 b28 g1 X eT E1 A1 D1 => ?_
  have g_b28 := own_gn O g1
  have O := O.ext E1
  refine o_dup X hx hB at_31 rfl ?_
  have f2 := D1 (Or.inl (W 22 rfl)) (ty := .int) (by decide)
  have f3 := D1 (Or.inl (W 25 rfl)) (ty := (.array (.object "java/lang/Object"))) (by decide)
  have f4 := D1 (Or.inl (W 45 rfl)) (ty := .int) (by decide)
  refine own_kQ (own_csp X hx hZ hB (W := 1) hown rfl (W 3 rfl) (W 4 rfl) (W 5 rfl) (W 2 rfl) (by decide) (rm_1 l Z a0 hw [] dc kd cr cc mr hG b28 (0 : Int32) (0 : Int32) _ n0 (own_zO O) O A1 f2 f3 f4 g_b28) (by decide) (by decide) eT hml rfl pd_0 rfl rfl rfl at_32 (by decide) (by decide)) fun v T L5 hQ X => ?_
  obtain ⟨rfl, Nq5, Kq5, t5_0, t5_1, t5_2, t5_3⟩ := hQ
  have N := Fr.app N Nq5
  have O := O.keep Kq5 (allS g_b28 all0)
  refine o_astore X hx hB #[.val (.long pa), .second, .val (.long pb), .second, .val (.long ps), .second, .val (.int fl), .val (.int (0 : Int32)), .val (.int (0 : Int32)), .val (.ref b28), .unset, .unset, .unset, .unset, .unset, .unset, .unset, .unset, .unset] at_35 rfl rfl ?_
  refine o_aload X hx hB at_37 rfl rfl ?_
  refine o_bipush X hx hB at_39 (10) ?_
  refine own_kP (own_cst X hx hZ hB (W := 1) hown (W 26 rfl) (W 27 rfl) (W 29 rfl) (W 28 rfl) (by decide) (rm_5 l Z a0 hw [] dc kd cr cc mr hG (10 : Int32) i10 _ n0 (own_zO O) O (by decide) (by decide) hin10 hs10) (by decide) (by decide) rfl hml rfl pd_21 rfl rfl rfl at_41 (by decide) (by decide)) rfl rfl fun T X eT => ?_
  refine own_kQ (own_cif X hx hZ hB (W := 0) hown (W 33 rfl) (W 34 rfl) (W 35 rfl) (W 36 rfl) (W 37 rfl) (W 38 rfl) (W 39 rfl) (W 40 rfl) (W 41 rfl) (W 2 rfl) (by decide) (rm_6f l Z a0 hw [] dc kd cr cc mr hG b28 i10 (0 : Int32) _ n0 (own_zO O) O t5_0 t5_1 t5_2 t5_3 g_b28 hX10) (by decide) (by decide) eT t5_0 hml rfl pd_7 rfl rfl rfl at_44 (by decide) (by decide)) fun v T L6 hQ X => ?_
  obtain ⟨b_44, k_44, rfl, Nq6, Kq6, t6_0, t6_1, t6_2, t6_3, t6_4, t6_5, t6_6⟩ := hQ
  have g_b_44 := Nat.le_trans (own_zO O) t6_5
  have N := Fr.app N Nq6
  have O := O.keep Kq6 (allS g_b28 all0)
  refine o_pop X hx hB at_49 rfl ?_
  refine o_iload X hx hB at_50 rfl ?_
  refine o_ifYes X hx hB at_52 (Jvm.Free.XT.i0_eq_t (by decide : (0 : Int32) = 0)) 68 ?_
  refine o_new X hx hZ hB hown (W 0 rfl) (W 1 rfl) (W 2 rfl) rfl at_68 (by decide) (by decide) fun T h7 b68 g7 X eT E7 A7 D7 => ?_
  have g_b68 := own_gn O g7
  have O := O.ext E7
  refine o_dup X hx hB at_71 rfl ?_
  have f8 := D7 (Or.inl (W 22 rfl)) (ty := .int) (by decide)
  have f9 := D7 (Or.inl (W 25 rfl)) (ty := (.array (.object "java/lang/Object"))) (by decide)
  have f10 := D7 (Or.inl (W 45 rfl)) (ty := .int) (by decide)
  refine own_kQ (own_csp X hx hZ hB (W := 1) hown rfl (W 3 rfl) (W 4 rfl) (W 5 rfl) (W 2 rfl) (by decide) (rm_1 l Z a0 hw [] dc kd cr cc mr hG b68 (0 : Int32) (0 : Int32) _ n0 (own_zO O) O A7 f8 f9 f10 g_b68) (by decide) (by decide) eT hml rfl pd_0 rfl rfl rfl at_72 (by decide) (by decide)) fun v T L11 hQ X => ?_
  obtain ⟨rfl, Nq11, Kq11, t11_0, t11_1, t11_2, t11_3⟩ := hQ
  have N := Fr.app N Nq11
  have O := O.keep Kq11 (allS g_b68 all0)
  refine o_astore X hx hB #[.val (.long pa), .second, .val (.long pb), .second, .val (.long ps), .second, .val (.int fl), .val (.int (0 : Int32)), .val (.int (0 : Int32)), .val (.ref b28), .val (.ref b68), .unset, .unset, .unset, .unset, .unset, .unset, .unset, .unset] at_75 rfl rfl ?_
  refine o_iload X hx hB at_77 rfl ?_
  refine o_ifNo X hx hB at_79 (Jvm.Free.XT.i0_ne_f (by decide : (0 : Int32) = 0)) ?_
  refine o_aload X hx hB at_82 rfl rfl ?_
  refine o_bipush X hx hB at_84 (20) ?_
  refine own_kP (own_cst X hx hZ hB (W := 1) hown (W 26 rfl) (W 27 rfl) (W 29 rfl) (W 28 rfl) (by decide) (rm_5 l Z a0 hw [] dc kd cr cc mr hG (20 : Int32) i20 _ n0 (own_zO O) O (by decide) (by decide) hin20 hs20) (by decide) (by decide) rfl hml rfl pd_21 rfl rfl rfl at_86 (by decide) (by decide)) rfl rfl fun T X eT => ?_
  refine own_kQ (own_cif X hx hZ hB (W := 0) hown (W 33 rfl) (W 34 rfl) (W 35 rfl) (W 36 rfl) (W 37 rfl) (W 38 rfl) (W 39 rfl) (W 40 rfl) (W 41 rfl) (W 2 rfl) (by decide) (rm_6f l Z a0 hw [] dc kd cr cc mr hG b68 i20 (0 : Int32) _ n0 (own_zO O) O t11_0 t11_1 t11_2 t11_3 g_b68 hX20) (by decide) (by decide) eT t11_0 hml rfl pd_7 rfl rfl rfl at_89 (by decide) (by decide)) fun v T L12 hQ X => ?_
  obtain ⟨b_89, k_89, rfl, Nq12, Kq12, t12_0, t12_1, t12_2, t12_3, t12_4, t12_5, t12_6⟩ := hQ
  have g_b_89 := Nat.le_trans (own_zO O) t12_5
  have N := Fr.app N Nq12
  have O := O.keep Kq12 (allS g_b68 all0)
  refine o_pop X hx hB at_94 rfl ?_
  refine o_lloadN X hx hB at_95 rfl ?_
  refine o_lload X hx hB at_96 rfl ?_
  refine o_lcmp X hx hB at_98 ?_
  by_cases hPa : ps < pa
  · refine o_ifYes X hx hB at_99 (Jvm.Free.XT.ll_gt_t hPa) 106 ?_
    refine o_iconst X hx hB at_106 (0) ?_
    refine o_istore X hx hB #[.val (.long pa), .second, .val (.long pb), .second, .val (.long ps), .second, .val (.int fl), .val (.int (0 : Int32)), .val (.int (0 : Int32)), .val (.ref b28), .val (.ref b68), .val (.int (0 : Int32)), .unset, .unset, .unset, .unset, .unset, .unset, .unset] at_107 rfl ?_
    refine o_iload X hx hB at_109 rfl ?_
    refine o_ifYes X hx hB at_111 (Jvm.Free.XT.i0_eq_t (by decide : (0 : Int32) = 0)) 125 ?_
    refine o_iconst X hx hB at_125 (0) ?_
    refine o_istore X hx hB #[.val (.long pa), .second, .val (.long pb), .second, .val (.long ps), .second, .val (.int fl), .val (.int (0 : Int32)), .val (.int (0 : Int32)), .val (.ref b28), .val (.ref b68), .val (.int (0 : Int32)), .val (.int (0 : Int32)), .unset, .unset, .unset, .unset, .unset, .unset] at_126 rfl ?_
    refine o_new X hx hZ hB hown (W 0 rfl) (W 1 rfl) (W 2 rfl) rfl at_128 (by decide) (by decide) fun T h13 b128 g13 X eT E13 A13 D13 => ?_
    have g_b128 := own_gn O g13
    have O := O.ext E13
    refine o_dup X hx hB at_131 rfl ?_
    have f14 := D13 (Or.inl (W 22 rfl)) (ty := .int) (by decide)
    have f15 := D13 (Or.inl (W 25 rfl)) (ty := (.array (.object "java/lang/Object"))) (by decide)
    have f16 := D13 (Or.inl (W 45 rfl)) (ty := .int) (by decide)
    refine own_kQ (own_csp X hx hZ hB (W := 1) hown rfl (W 3 rfl) (W 4 rfl) (W 5 rfl) (W 2 rfl) (by decide) (rm_1 l Z a0 hw [] dc kd cr cc mr hG b128 (0 : Int32) (0 : Int32) _ n0 (own_zO O) O A13 f14 f15 f16 g_b128) (by decide) (by decide) eT hml rfl pd_0 rfl rfl rfl at_132 (by decide) (by decide)) fun v T L17 hQ X => ?_
    obtain ⟨rfl, Nq17, Kq17, t17_0, t17_1, t17_2, t17_3⟩ := hQ
    have N := Fr.app N Nq17
    have O := O.keep Kq17 (allS g_b128 all0)
    refine o_astore X hx hB #[.val (.long pa), .second, .val (.long pb), .second, .val (.long ps), .second, .val (.int fl), .val (.int (0 : Int32)), .val (.int (0 : Int32)), .val (.ref b28), .val (.ref b68), .val (.int (0 : Int32)), .val (.int (0 : Int32)), .val (.ref b128), .unset, .unset, .unset, .unset, .unset] at_135 rfl rfl ?_
    refine o_new X hx hZ hB hown (W 0 rfl) (W 1 rfl) (W 2 rfl) rfl at_137 (by decide) (by decide) fun T h18 b137 g18 X eT E18 A18 D18 => ?_
    have g_b137 := own_gn O g18
    have O := O.ext E18
    refine o_dup X hx hB at_140 rfl ?_
    have f19 := D18 (Or.inl (W 22 rfl)) (ty := .int) (by decide)
    have f20 := D18 (Or.inl (W 25 rfl)) (ty := (.array (.object "java/lang/Object"))) (by decide)
    have f21 := D18 (Or.inl (W 45 rfl)) (ty := .int) (by decide)
    refine own_kQ (own_csp X hx hZ hB (W := 1) hown rfl (W 3 rfl) (W 4 rfl) (W 5 rfl) (W 2 rfl) (by decide) (rm_1 l Z a0 hw [] dc kd cr cc mr hG b137 (0 : Int32) (0 : Int32) _ n0 (own_zO O) O A18 f19 f20 f21 g_b137) (by decide) (by decide) eT hml rfl pd_0 rfl rfl rfl at_141 (by decide) (by decide)) fun v T L22 hQ X => ?_
    obtain ⟨rfl, Nq22, Kq22, t22_0, t22_1, t22_2, t22_3⟩ := hQ
    have N := Fr.app N Nq22
    have O := O.keep Kq22 (allS g_b137 all0)
    refine o_astore X hx hB #[.val (.long pa), .second, .val (.long pb), .second, .val (.long ps), .second, .val (.int fl), .val (.int (0 : Int32)), .val (.int (0 : Int32)), .val (.ref b28), .val (.ref b68), .val (.int (0 : Int32)), .val (.int (0 : Int32)), .val (.ref b128), .val (.ref b137), .unset, .unset, .unset, .unset] at_144 rfl rfl ?_
    refine o_iload X hx hB at_146 rfl ?_
    refine o_ifYes X hx hB at_148 (Jvm.Free.XT.i0_eq_t (by decide : (0 : Int32) = 0)) 185 ?_
    refine o_aload X hx hB at_185 rfl rfl ?_
    refine o_bipush X hx hB at_187 (10) ?_
    refine own_kP (own_cst X hx hZ hB (W := 1) hown (W 26 rfl) (W 27 rfl) (W 29 rfl) (W 28 rfl) (by decide) (rm_5 l Z a0 hw [] dc kd cr cc mr hG (10 : Int32) i10 _ n0 (own_zO O) O (by decide) (by decide) hin10 hs10) (by decide) (by decide) rfl hml rfl pd_21 rfl rfl rfl at_189 (by decide) (by decide)) rfl rfl fun T X eT => ?_
    refine own_kQ (own_cif X hx hZ hB (W := 0) hown (W 33 rfl) (W 34 rfl) (W 35 rfl) (W 36 rfl) (W 37 rfl) (W 38 rfl) (W 39 rfl) (W 40 rfl) (W 41 rfl) (W 2 rfl) (by decide) (rm_6f l Z a0 hw [] dc kd cr cc mr hG b137 i10 (0 : Int32) _ n0 (own_zO O) O t22_0 t22_1 t22_2 t22_3 g_b137 hX10) (by decide) (by decide) eT t22_0 hml rfl pd_7 rfl rfl rfl at_192 (by decide) (by decide)) fun v T L23 hQ X => ?_
    obtain ⟨b_192, k_192, rfl, Nq23, Kq23, t23_0, t23_1, t23_2, t23_3, t23_4, t23_5, t23_6⟩ := hQ
    have g_b_192 := Nat.le_trans (own_zO O) t23_5
    have N := Fr.app N Nq23
    have O := O.keep Kq23 (allS g_b137 all0)
    refine o_pop X hx hB at_197 rfl ?_
    refine o_iload X hx hB at_198 rfl ?_
    refine o_ifYes X hx hB at_200 (Jvm.Free.XT.i0_eq_t (by decide : (0 : Int32) = 0)) 216 ?_
    refine o_iload X hx hB at_216 rfl ?_
    refine o_ifNo X hx hB at_218 (Jvm.Free.XT.i0_ne_f (by decide : (0 : Int32) = 0)) ?_
    refine o_iload X hx hB at_221 rfl ?_
    refine o_ifYes X hx hB at_223 (Jvm.Free.XT.i0_eq_t (by decide : (0 : Int32) = 0)) 242 ?_
    refine o_aload X hx hB at_242 rfl rfl ?_
    refine o_bipush X hx hB at_244 (20) ?_
    refine own_kP (own_cst X hx hZ hB (W := 1) hown (W 26 rfl) (W 27 rfl) (W 29 rfl) (W 28 rfl) (by decide) (rm_5 l Z a0 hw [] dc kd cr cc mr hG (20 : Int32) i20 _ n0 (own_zO O) O (by decide) (by decide) hin20 hs20) (by decide) (by decide) rfl hml rfl pd_21 rfl rfl rfl at_246 (by decide) (by decide)) rfl rfl fun T X eT => ?_
    have f24 := own_castI (j := (1 : Int32)) (by decide) t23_1
    have f25 := own_castI (j := (1 : Int32)) (by decide) t23_3
    have f26 := own_castA (us := (own_p 10 [.ref i10])) (by rfl) t23_4
    refine own_kQ (own_cif X hx hZ hB (W := 0) hown (W 33 rfl) (W 34 rfl) (W 35 rfl) (W 36 rfl) (W 37 rfl) (W 38 rfl) (W 39 rfl) (W 40 rfl) (W 41 rfl) (W 2 rfl) (by decide) (rm_6r l Z a0 hw [] dc kd cr cc mr hG b137 i20 (1 : Int32) b_192 k_192 (own_p 10 [.ref i10]) (1 : Int32) _ n0 (own_zO O) O t23_0 f24 t23_2 f25 f26 t23_6 g_b137 g_b_192 ⟨by decide, by decide⟩ (by decide) hX20) (by decide) (by decide) eT t23_0 hml rfl pd_7 rfl rfl rfl at_249 (by decide) (by decide)) fun v T L27 hQ X => ?_
    obtain ⟨rfl, Nq27, Kq27, t27_0, t27_1, t27_2, t27_3, t27_4, t27_5⟩ := hQ
    have N := Fr.app N Nq27
    have O := O.keep Kq27 (allS g_b137 (allS g_b_192 all0))
    refine o_pop X hx hB at_254 rfl ?_
    refine o_iload X hx hB at_255 rfl ?_
    refine o_ifYes X hx hB at_257 (Jvm.Free.XT.i0_eq_t (by decide : (0 : Int32) = 0)) 264 ?_
    refine o_iconst X hx hB at_264 (1) ?_
    refine o_iload X hx hB at_265 rfl ?_
    refine o_ifYes X hx hB at_267 (Jvm.Free.XT.i0_eq_t (by decide : (0 : Int32) = 0)) 274 ?_
    refine o_iconst X hx hB at_274 (1) ?_
    refine o_iadd X hx hB at_275 ?_
    refine o_istore X hx hB #[.val (.long pa), .second, .val (.long pb), .second, .val (.long ps), .second, .val (.int fl), .val (.int (0 : Int32)), .val (.int (0 : Int32)), .val (.ref b28), .val (.ref b68), .val (.int (0 : Int32)), .val (.int (0 : Int32)), .val (.ref b128), .val (.ref b137), .val (.int ((1 : Int32) + (1 : Int32))), .unset, .unset, .unset] at_276 rfl ?_
    refine o_new X hx hZ hB hown (W 68 rfl) (W 69 rfl) (W 70 rfl) rfl at_278 (by decide) (by decide) fun T h28 b278 g28 X eT E28 A28 D28 => ?_
    have g_b278 := own_gn O g28
    have O := O.ext E28
    refine o_dup X hx hB at_281 rfl ?_
    have f29 := D28 (Or.inr (W 87 rfl)) (ty := (.object "java/util/Deque")) (by decide)
    refine own_kQ (own_csp X hx hZ hB (W := 1) hown rfl (W 71 rfl) (W 72 rfl) (W 73 rfl) (W 70 rfl) (by decide) (rm_11 l Z a0 hw [] dc kd cr cc mr hG b278 _ n0 (own_zO O) O A28 f29 g_b278) (by decide) (by decide) eT hml rfl pd_0 rfl rfl rfl at_282 (by decide) (by decide)) fun v T L30 hQ X => ?_
    obtain ⟨d_282, ea_282, k_282, rfl, Nq30, Kq30, t30_0, t30_1, t30_2, t30_3, t30_4, t30_5, t30_6, t30_7, t30_8⟩ := hQ
    have g_d_282 := Nat.le_trans (own_zO O) t30_7
    have g_ea_282 := Nat.le_trans (own_zO O) t30_8
    have N := Fr.app N Nq30
    have O := O.keep Kq30 (allS g_b278 all0)
    refine o_astore X hx hB #[.val (.long pa), .second, .val (.long pb), .second, .val (.long ps), .second, .val (.int fl), .val (.int (0 : Int32)), .val (.int (0 : Int32)), .val (.ref b28), .val (.ref b68), .val (.int (0 : Int32)), .val (.int (0 : Int32)), .val (.ref b128), .val (.ref b137), .val (.int ((1 : Int32) + (1 : Int32))), .val (.ref b278), .unset, .unset] at_285 rfl rfl ?_
    refine o_aload X hx hB at_287 rfl rfl ?_
    refine o_lloadN X hx hB at_289 rfl ?_
    refine o_aload X hx hB at_290 rfl rfl ?_
    have f31 := own_castA (us := (own_p 17 [])) (by rfl) t30_6
    have f32 := ((own_castA (us := (own_p 17 [])) (by rfl) t30_6)).2.2.2
    have z33 := Exa.ne t30_2 f32 (by decide)
    refine own_kQ (own_cvi X hx hZ hB (W := 0) hown (W 88 rfl) (W 89 rfl) (W 91 rfl) (W 90 rfl) (W 92 rfl) (W 70 rfl) (by decide) (rm_13 l Z a0 hw [] dc kd cr cc mr hG b278 pa b28 d_282 ea_282 k_282 (own_p 17 []) (0 : Int32) (0 : Int32) _ n0 (own_zO O) O t30_0 t30_1 t30_2 t30_3 t30_4 t30_5 f31 z33 g_d_282 g_ea_282 ⟨by decide, by decide⟩ (by decide) (by decide)) (by decide) (by decide) rfl t30_0 hml rfl pd_6 rfl rfl rfl at_292 (by decide) (by decide)) fun v T L34 hQ X => ?_
    obtain ⟨x_292, rfl, Nq34, Kq34, t34_0, t34_1, t34_2, t34_3, t34_4, t34_5, t34_6, t34_7, t34_8, t34_9, t34_10, t34_11⟩ := hQ
    have g_x_292 := Nat.le_trans (own_zO O) t34_11
    have N := Fr.app N Nq34
    have O := O.keep Kq34 (allS g_d_282 (allS g_ea_282 all0))
    refine o_aload X hx hB at_295 rfl rfl ?_
    refine o_lloadN X hx hB at_297 rfl ?_
    refine o_aload X hx hB at_298 rfl rfl ?_
    have f35 := own_castI (j := (1 : Int32)) (by decide) t34_5
    have f36 := own_castA (us := (own_p 17 [.ref x_292])) (by rfl) t34_6
    refine own_kQ (own_cvi X hx hZ hB (W := 0) hown (W 88 rfl) (W 89 rfl) (W 91 rfl) (W 90 rfl) (W 92 rfl) (W 70 rfl) (by decide) (rm_13 l Z a0 hw [] dc kd cr cc mr hG b278 pb b68 d_282 ea_282 k_282 (own_p 17 [.ref x_292]) (0 : Int32) (1 : Int32) _ n0 (own_zO O) O t34_0 t34_1 t34_2 t34_3 t34_4 f35 f36 t34_7 g_d_282 g_ea_282 ⟨by decide, by decide⟩ (by decide) (by decide)) (by decide) (by decide) rfl t34_0 hml rfl pd_6 rfl rfl rfl at_300 (by decide) (by decide)) fun v T L37 hQ X => ?_
    obtain ⟨x_300, rfl, Nq37, Kq37, t37_0, t37_1, t37_2, t37_3, t37_4, t37_5, t37_6, t37_7, t37_8, t37_9, t37_10, t37_11⟩ := hQ
    have g_x_300 := Nat.le_trans (own_zO O) t37_11
    have N := Fr.app N Nq37
    have O := O.keep Kq37 (allS g_d_282 (allS g_ea_282 all0))
    refine o_aload X hx hB at_303 rfl rfl ?_
    have f38 := own_castI (j := (2 : Int32)) (by decide) t37_5
    have f39 := own_castA (us := (own_p 17 [.ref x_292, .ref x_300])) (by rfl) t37_6
    refine own_kP (own_cvi X hx hZ hB (W := 0) hown (W 131 rfl) (W 132 rfl) (W 134 rfl) (W 133 rfl) (W 135 rfl) (W 70 rfl) (by decide) (rm_19 l Z a0 hw [] dc kd cr cc mr hG b278 d_282 ea_282 k_282 (own_p 17 [.ref x_292, .ref x_300]) (0 : Int32) (2 : Int32) _ n0 (own_zO O) O t37_0 t37_1 t37_2 t37_3 t37_4 f38 f39 (by decide)) (by decide) (by decide) rfl t37_0 hml rfl pd_9 rfl rfl rfl at_305 (by decide) (by decide)) rfl rfl fun T X eT => ?_
    refine o_iconst X hx hB at_308 (2) ?_
    refine o_icmpYes X hx hB at_309 (Jvm.Free.XT.ii_eq_t (by decide : ((2 : Int32) - (0 : Int32)) = (2 : Int32))) 314 ?_
    refine o_aload X hx hB at_314 rfl rfl ?_
    refine o_lload X hx hB at_316 rfl ?_
    have f40 := t34_8.keep Kq37
    have z41 := own_ne2 f32.lt t34_11
    have z42 := own_ne2 t30_2.lt t34_11
    have f43 := t34_9.keep Kq37 (ninS (Ne.symm z42) (ninS (Ne.symm z41) nin0))
    have f44 := t34_10.keep Kq37 (ninS (Ne.symm z42) (ninS (Ne.symm z41) nin0))
    refine own_kQ (own_cvi X hx hZ hB (W := 0) hown (W 147 rfl) (W 148 rfl) (W 150 rfl) (W 149 rfl) (W 151 rfl) (W 70 rfl) (by decide) (rm_22_A l Z a0 hw [] dc kd cr cc mr hG b278 ps d_282 ea_282 k_282 (own_p 17 [.ref x_292, .ref x_300]) (0 : Int32) (2 : Int32) x_292 pa b28 _ n0 (own_zO O) O t37_0 t37_1 t37_2 t37_3 t37_4 f38 f39 t37_7 f40 f43 f44 (by decide) ⟨by decide, by decide⟩ (by rfl) hPa) (by decide) (by decide) eT t37_0 hml rfl pd_20 rfl rfl rfl at_318 (by decide) (by decide)) fun v T L45 hQ X => ?_
    obtain ⟨b_318, rfl, Nq45, Kq45, t45_0, t45_1, t45_2, t45_3, t45_4⟩ := hQ
    have g_b_318 := Nat.le_trans (own_zO O) t45_4
    have N := Fr.app N Nq45
    have O := O.keep Kq45 all0
    refine o_astore X hx hB #[.val (.long pa), .second, .val (.long pb), .second, .val (.long ps), .second, .val (.int fl), .val (.int (0 : Int32)), .val (.int (0 : Int32)), .val (.ref b28), .val (.ref b68), .val (.int (0 : Int32)), .val (.int (0 : Int32)), .val (.ref b128), .val (.ref b137), .val (.int ((1 : Int32) + (1 : Int32))), .val (.ref b278), .val (.ref b_318), .unset] at_321 rfl rfl ?_
    refine o_aload X hx hB at_323 rfl rfl ?_
    refine o_aload X hx hB at_325 rfl rfl ?_
    have f46 := ((((((((t17_0.ext E18).keep Kq22).keep Kq23).keep Kq27).ext E28).keep Kq30).keep Kq34).keep Kq37).keep Kq45
    have z47 := own_ne1 t17_0.lt g18
    have z48 := own_ne2 ((t17_0.ext E18).keep Kq22).lt t23_5
    have z49 := own_ne1 ((((t17_0.ext E18).keep Kq22).keep Kq23).keep Kq27).lt g28
    have z50 := own_ne2 (((((t17_0.ext E18).keep Kq22).keep Kq23).keep Kq27).ext E28).lt t30_8
    have z51 := own_ne2 (((((t17_0.ext E18).keep Kq22).keep Kq23).keep Kq27).ext E28).lt t30_7
    have f52 := ((((((((t17_2.ext E18).keep Kq22 (ninS z47 nin0)).keep Kq23 (ninS z47 nin0)).keep Kq27 (ninS z47 (ninS z48 nin0))).ext E28).keep Kq30 (ninS z49 nin0)).keep Kq34 (ninS z51 (ninS z50 nin0))).keep Kq37 (ninS z51 (ninS z50 nin0))).keep Kq45 nin0
    have f53 := ((((((((t17_3.ext E18).keep Kq22 (ninS z47 nin0)).keep Kq23 (ninS z47 nin0)).keep Kq27 (ninS z47 (ninS z48 nin0))).ext E28).keep Kq30 (ninS z49 nin0)).keep Kq34 (ninS z51 (ninS z50 nin0))).keep Kq37 (ninS z51 (ninS z50 nin0))).keep Kq45 nin0
    refine own_kP (own_cst X hx hZ hB (W := 0) hown (W 184 rfl) (W 185 rfl) (W 187 rfl) (W 186 rfl) (by decide) (rm_28_0 l Z a0 hw [] dc kd cr cc mr hG b_318 b128 dc kd [] dc kd [] _ n0 (own_zO O) O t45_0 t45_2 t45_3 f46 f52 f53) (by decide) (by decide) rfl hml rfl pd_22 rfl rfl rfl at_327 (by decide) (by decide)) rfl rfl fun T X eT => ?_
    refine o_ifYes X hx hB at_330 (Jvm.Free.XT.i0_ne_t (by decide : ¬ ((1 : Int32) = 0))) 335 ?_
    refine o_aload X hx hB at_335 rfl rfl ?_
    have f54 := t37_0.keep Kq45
    have f55 := t37_1.keep Kq45 nin0
    have f56 := t37_2.keep Kq45
    have f57 := t37_3.keep Kq45 nin0
    have f58 := t37_4.keep Kq45 nin0
    have f59 := f38.keep Kq45 nin0
    have f60 := f39.keep Kq45 nin0
    refine own_kP (own_cvi X hx hZ hB (W := 0) hown (W 131 rfl) (W 132 rfl) (W 134 rfl) (W 133 rfl) (W 135 rfl) (W 70 rfl) (by decide) (rm_19 l Z a0 hw [] dc kd cr cc mr hG b278 d_282 ea_282 k_282 (own_p 17 [.ref x_292, .ref x_300]) (0 : Int32) (2 : Int32) _ n0 (own_zO O) O f54 f55 f56 f57 f58 f59 f60 (by decide)) (by decide) (by decide) eT f54 hml rfl pd_9 rfl rfl rfl at_337 (by decide) (by decide)) rfl rfl fun T X eT => ?_
    refine o_iload X hx hB at_340 rfl ?_
    refine o_icmpYes X hx hB at_342 (Jvm.Free.XT.ii_eq_t (by decide : ((2 : Int32) - (0 : Int32)) = ((1 : Int32) + (1 : Int32)))) 347 ?_
    refine o_aload X hx hB at_347 rfl rfl ?_
    have f61 := f40.keep Kq45
    have f62 := f43.keep Kq45 nin0
    have f63 := f44.keep Kq45 nin0
    have f64 := (((((((((((((t6_0.ext E7).keep Kq11).keep Kq12).ext E13).keep Kq17).ext E18).keep Kq22).keep Kq23).keep Kq27).ext E28).keep Kq30).keep Kq34).keep Kq37).keep Kq45
    have z65 := own_ne1 t6_0.lt g7
    have z66 := own_ne1 (((t6_0.ext E7).keep Kq11).keep Kq12).lt g13
    have z67 := own_ne1 (((((t6_0.ext E7).keep Kq11).keep Kq12).ext E13).keep Kq17).lt g18
    have z68 := own_ne2 (((((((t6_0.ext E7).keep Kq11).keep Kq12).ext E13).keep Kq17).ext E18).keep Kq22).lt t23_5
    have z69 := own_ne1 (((((((((t6_0.ext E7).keep Kq11).keep Kq12).ext E13).keep Kq17).ext E18).keep Kq22).keep Kq23).keep Kq27).lt g28
    have z70 := own_ne2 ((((((((((t6_0.ext E7).keep Kq11).keep Kq12).ext E13).keep Kq17).ext E18).keep Kq22).keep Kq23).keep Kq27).ext E28).lt t30_8
    have z71 := own_ne2 ((((((((((t6_0.ext E7).keep Kq11).keep Kq12).ext E13).keep Kq17).ext E18).keep Kq22).keep Kq23).keep Kq27).ext E28).lt t30_7
    have f72 := (((((((((((((t6_2.ext E7).keep Kq11 (ninS z65 nin0)).keep Kq12 (ninS z65 nin0)).ext E13).keep Kq17 (ninS z66 nin0)).ext E18).keep Kq22 (ninS z67 nin0)).keep Kq23 (ninS z67 nin0)).keep Kq27 (ninS z67 (ninS z68 nin0))).ext E28).keep Kq30 (ninS z69 nin0)).keep Kq34 (ninS z71 (ninS z70 nin0))).keep Kq37 (ninS z71 (ninS z70 nin0))).keep Kq45 nin0
    have f73 := ((((((((((((((own_castI (j := (1 : Int32)) (by decide) t6_3).ext E7).keep Kq11 (ninS z65 nin0)).keep Kq12 (ninS z65 nin0)).ext E13).keep Kq17 (ninS z66 nin0)).ext E18).keep Kq22 (ninS z67 nin0)).keep Kq23 (ninS z67 nin0)).keep Kq27 (ninS z67 (ninS z68 nin0))).ext E28).keep Kq30 (ninS z69 nin0)).keep Kq34 (ninS z71 (ninS z70 nin0))).keep Kq37 (ninS z71 (ninS z70 nin0))).keep Kq45 nin0
    have z74 := own_ne1 ((own_castA (us := (own_p 10 [.ref i10])) (by rfl) t6_4)).2.2.2.lt g7
    have z75 := own_ne1 (((((own_castA (us := (own_p 10 [.ref i10])) (by rfl) t6_4)).2.2.2.ext E7).keep Kq11).keep Kq12).lt g13
    have z76 := own_ne1 (((((((own_castA (us := (own_p 10 [.ref i10])) (by rfl) t6_4)).2.2.2.ext E7).keep Kq11).keep Kq12).ext E13).keep Kq17).lt g18
    have z77 := own_ne2 (((((((((own_castA (us := (own_p 10 [.ref i10])) (by rfl) t6_4)).2.2.2.ext E7).keep Kq11).keep Kq12).ext E13).keep Kq17).ext E18).keep Kq22).lt t23_5
    have z78 := own_ne1 (((((((((((own_castA (us := (own_p 10 [.ref i10])) (by rfl) t6_4)).2.2.2.ext E7).keep Kq11).keep Kq12).ext E13).keep Kq17).ext E18).keep Kq22).keep Kq23).keep Kq27).lt g28
    have z79 := own_ne2 ((((((((((((own_castA (us := (own_p 10 [.ref i10])) (by rfl) t6_4)).2.2.2.ext E7).keep Kq11).keep Kq12).ext E13).keep Kq17).ext E18).keep Kq22).keep Kq23).keep Kq27).ext E28).lt t30_8
    have z80 := own_ne2 ((((((((((((own_castA (us := (own_p 10 [.ref i10])) (by rfl) t6_4)).2.2.2.ext E7).keep Kq11).keep Kq12).ext E13).keep Kq17).ext E18).keep Kq22).keep Kq23).keep Kq27).ext E28).lt t30_7
    have f81 := ((((((((((((((own_castA (us := (own_p 10 [.ref i10])) (by rfl) t6_4).ext E7).keep Kq11 (ninS z74 nin0)).keep Kq12 (ninS z74 nin0)).ext E13).keep Kq17 (ninS z75 nin0)).ext E18).keep Kq22 (ninS z76 nin0)).keep Kq23 (ninS z76 nin0)).keep Kq27 (ninS z76 (ninS z77 nin0))).ext E28).keep Kq30 (ninS z78 nin0)).keep Kq34 (ninS z80 (ninS z79 nin0))).keep Kq37 (ninS z80 (ninS z79 nin0))).keep Kq45 nin0
    have f82 := t37_8.keep Kq45
    have f83 := t37_9.keep Kq45 nin0
    have f84 := t37_10.keep Kq45 nin0
    have f85 := ((((((((((t12_0.ext E13).keep Kq17).ext E18).keep Kq22).keep Kq23).keep Kq27).ext E28).keep Kq30).keep Kq34).keep Kq37).keep Kq45
    have z86 := own_ne1 t12_0.lt g13
    have z87 := own_ne1 ((t12_0.ext E13).keep Kq17).lt g18
    have z88 := own_ne2 ((((t12_0.ext E13).keep Kq17).ext E18).keep Kq22).lt t23_5
    have z89 := own_ne1 ((((((t12_0.ext E13).keep Kq17).ext E18).keep Kq22).keep Kq23).keep Kq27).lt g28
    have z90 := own_ne2 (((((((t12_0.ext E13).keep Kq17).ext E18).keep Kq22).keep Kq23).keep Kq27).ext E28).lt t30_8
    have z91 := own_ne2 (((((((t12_0.ext E13).keep Kq17).ext E18).keep Kq22).keep Kq23).keep Kq27).ext E28).lt t30_7
    have f92 := ((((((((((t12_2.ext E13).keep Kq17 (ninS z86 nin0)).ext E18).keep Kq22 (ninS z87 nin0)).keep Kq23 (ninS z87 nin0)).keep Kq27 (ninS z87 (ninS z88 nin0))).ext E28).keep Kq30 (ninS z89 nin0)).keep Kq34 (ninS z91 (ninS z90 nin0))).keep Kq37 (ninS z91 (ninS z90 nin0))).keep Kq45 nin0
    have f93 := (((((((((((own_castI (j := (1 : Int32)) (by decide) t12_3).ext E13).keep Kq17 (ninS z86 nin0)).ext E18).keep Kq22 (ninS z87 nin0)).keep Kq23 (ninS z87 nin0)).keep Kq27 (ninS z87 (ninS z88 nin0))).ext E28).keep Kq30 (ninS z89 nin0)).keep Kq34 (ninS z91 (ninS z90 nin0))).keep Kq37 (ninS z91 (ninS z90 nin0))).keep Kq45 nin0
    have z94 := own_ne1 ((own_castA (us := (own_p 10 [.ref i20])) (by rfl) t12_4)).2.2.2.lt g13
    have z95 := own_ne1 ((((own_castA (us := (own_p 10 [.ref i20])) (by rfl) t12_4)).2.2.2.ext E13).keep Kq17).lt g18
    have z96 := own_ne2 ((((((own_castA (us := (own_p 10 [.ref i20])) (by rfl) t12_4)).2.2.2.ext E13).keep Kq17).ext E18).keep Kq22).lt t23_5
    have z97 := own_ne1 ((((((((own_castA (us := (own_p 10 [.ref i20])) (by rfl) t12_4)).2.2.2.ext E13).keep Kq17).ext E18).keep Kq22).keep Kq23).keep Kq27).lt g28
    have z98 := own_ne2 (((((((((own_castA (us := (own_p 10 [.ref i20])) (by rfl) t12_4)).2.2.2.ext E13).keep Kq17).ext E18).keep Kq22).keep Kq23).keep Kq27).ext E28).lt t30_8
    have z99 := own_ne2 (((((((((own_castA (us := (own_p 10 [.ref i20])) (by rfl) t12_4)).2.2.2.ext E13).keep Kq17).ext E18).keep Kq22).keep Kq23).keep Kq27).ext E28).lt t30_7
    have f100 := (((((((((((own_castA (us := (own_p 10 [.ref i20])) (by rfl) t12_4).ext E13).keep Kq17 (ninS z94 nin0)).ext E18).keep Kq22 (ninS z95 nin0)).keep Kq23 (ninS z95 nin0)).keep Kq27 (ninS z95 (ninS z96 nin0))).ext E28).keep Kq30 (ninS z97 nin0)).keep Kq34 (ninS z99 (ninS z98 nin0))).keep Kq37 (ninS z99 (ninS z98 nin0))).keep Kq45 nin0
    have z101 := own_ne2 t34_8.lt t37_11
    refine own_kQ (own_cvi X hx hZ hB (W := 0) hown (W 196 rfl) (W 197 rfl) (W 199 rfl) (W 198 rfl) (W 200 rfl) (W 70 rfl) (by decide) (rm_30_Cr l Z a0 hw [] dc kd cr cc mr hG b278 d_282 ea_282 k_282 (own_p 17 [.ref x_292, .ref x_300]) (0 : Int32) (2 : Int32) x_292 pa b28 b_44 (1 : Int32) k_44 (own_p 10 [.ref i10]) [Value.ref i10] x_300 pb b68 b_89 (1 : Int32) k_89 (own_p 10 [.ref i20]) [Value.ref i20] _ n0 (own_zO O) O f54 f55 f56 f57 f58 f59 f60 t37_7 f61 f62 f63 f64 f72 f73 f81 (Ne.symm z79) f82 f83 f84 f85 f92 f93 f100 (Ne.symm z98) z101 g_d_282 g_ea_282 (by decide) ⟨by decide, by decide⟩ (by rfl) (own_mx pa) (by decide) (by decide) (by decide) (by decide) (by decide) (by rfl) ⟨rfl, (own_cI hX10 own_nI)⟩ (by decide) (by decide) (by decide) (by decide) ⟨by decide, by decide⟩ (by rfl) (own_mx pb) (by decide) (by decide) (by decide) (by decide) (by decide) (by rfl) ⟨rfl, (own_cI hX20 own_nI)⟩ (by decide) (by decide) (by decide) (by decide) (by decide)) (by decide) (by decide) eT f54 hml rfl pd_18 rfl rfl rfl at_349 (by decide) (by decide)) fun v T L102 hQ X => ?_
    obtain ⟨b_349, eb_349, ke0_349, rfl, Nq102, Kq102, t102_0, t102_1, t102_2, t102_3, t102_4, t102_5, t102_6, t102_7, t102_8, t102_9, t102_10, t102_11, t102_12, t102_13⟩ := hQ
    have g_b_349 := Nat.le_trans (own_zO O) t102_4
    have g_eb_349 := Nat.le_trans (own_zO O) t102_7
    have N := Fr.app N Nq102
    have O := O.keep Kq102 (allS g_d_282 (allS g_ea_282 all0))
    refine o_astore X hx hB #[.val (.long pa), .second, .val (.long pb), .second, .val (.long ps), .second, .val (.int fl), .val (.int (0 : Int32)), .val (.int (0 : Int32)), .val (.ref b28), .val (.ref b68), .val (.int (0 : Int32)), .val (.int (0 : Int32)), .val (.ref b128), .val (.ref b137), .val (.int ((1 : Int32) + (1 : Int32))), .val (.ref b278), .val (.ref b_318), .val (.ref b_349)] at_352 rfl rfl ?_
    refine o_aload X hx hB at_354 rfl rfl ?_
    refine o_aload X hx hB at_356 rfl rfl ?_
    have f103 := own_castI (j := (2 : Int32)) (by decide) t102_3
    have f104 := own_castA (us := (own_p 10 [.ref i10, .ref i20])) (by rfl) t102_5
    have f105 := (((((t27_0.ext E28).keep Kq30).keep Kq34).keep Kq37).keep Kq45).keep Kq102
    have z106 := own_ne1 t27_0.lt g28
    have z107 := own_ne2 (t27_0.ext E28).lt t30_8
    have z108 := own_ne2 (t27_0.ext E28).lt t30_7
    have f109 := (((((t27_2.ext E28).keep Kq30 (ninS z106 nin0)).keep Kq34 (ninS z108 (ninS z107 nin0))).keep Kq37 (ninS z108 (ninS z107 nin0))).keep Kq45 nin0).keep Kq102 (ninS z108 (ninS z107 nin0))
    have f110 := ((((((own_castI (j := (2 : Int32)) (by decide) t27_3).ext E28).keep Kq30 (ninS z106 nin0)).keep Kq34 (ninS z108 (ninS z107 nin0))).keep Kq37 (ninS z108 (ninS z107 nin0))).keep Kq45 nin0).keep Kq102 (ninS z108 (ninS z107 nin0))
    have z111 := own_ne1 (((own_castA (us := (own_p 10 [.ref i10])) (by rfl) t23_4)).2.2.2.keep Kq27).lt g28
    have z112 := own_ne2 ((((own_castA (us := (own_p 10 [.ref i10])) (by rfl) t23_4)).2.2.2.keep Kq27).ext E28).lt t30_8
    have z113 := own_ne2 ((((own_castA (us := (own_p 10 [.ref i10])) (by rfl) t23_4)).2.2.2.keep Kq27).ext E28).lt t30_7
    have f114 := ((((((own_castA (us := (own_p 10 [.ref i10, .ref i20])) (by rfl) t27_4).ext E28).keep Kq30 (ninS z111 nin0)).keep Kq34 (ninS z113 (ninS z112 nin0))).keep Kq37 (ninS z113 (ninS z112 nin0))).keep Kq45 nin0).keep Kq102 (ninS z113 (ninS z112 nin0))
    refine own_kP (own_cst X hx hZ hB (W := 0) hown (W 184 rfl) (W 185 rfl) (W 187 rfl) (W 186 rfl) (by decide) (rm_28_2 l Z a0 hw [] dc kd cr cc mr hG b_349 b137 eb_349 ke0_349 (own_p 10 [.ref i10, .ref i20]) b_192 k_192 (own_p 10 [.ref i10, .ref i20]) i10 vv10 i20 vv20 _ n0 (own_zO O) O t102_0 t102_2 f103 f104 f105 f109 f110 f114 (hX10.ext O.2) (hV10.ext O.2) (hX20.ext O.2) (hV20.ext O.2) (by rfl) (by rfl) (by rfl) (by rfl)) (by decide) (by decide) rfl hml rfl pd_22 rfl rfl rfl at_358 (by decide) (by decide)) rfl rfl fun T X eT => ?_
    refine o_ifYes X hx hB at_361 (Jvm.Free.XT.i0_ne_t (by decide : ¬ ((1 : Int32) = 0))) 366 ?_
    refine o_aload X hx hB at_366 rfl rfl ?_
    have f115 := f54.keep Kq102
    have z116 := own_ne2 A28.lt t30_8
    have z117 := own_ne2 A28.lt t30_7
    have f118 := f55.keep Kq102 (ninS z117 (ninS z116 nin0))
    have f119 := own_castI (j := (2 : Int32)) (by decide) t102_10
    have f120 := own_castA (us := (own_p 17 [.null, .null])) (by rfl) t102_12
    refine own_kP (own_cvi X hx hZ hB (W := 0) hown (W 131 rfl) (W 132 rfl) (W 134 rfl) (W 133 rfl) (W 135 rfl) (W 70 rfl) (by decide) (rm_19 l Z a0 hw [] dc kd cr cc mr hG b278 d_282 ea_282 k_282 (own_p 17 [.null, .null]) (2 : Int32) (2 : Int32) _ n0 (own_zO O) O f115 f118 t102_8 t102_9 f119 t102_11 f120 (by decide)) (by decide) (by decide) eT f115 hml rfl pd_9 rfl rfl rfl at_368 (by decide) (by decide)) rfl rfl fun T X eT => ?_
    refine o_ifNo X hx hB at_371 (Jvm.Free.XT.i0_ne_f (by decide : ((2 : Int32) - (2 : Int32)) = 0)) ?_
    refine o_iconst X hx hB at_374 (1) ?_
    refine o_goto X hx hB at_375 379 ?_
    exact own_retN X hx (t := .boolean) Bd.returns (by simp) (hb hB at_379) (BodyLoose.notSynchronized Bd) (w := (1 : Int32)) rfl ⟨rfl, N⟩ (by decide) (by decide)
  · refine o_ifNo X hx hB at_99 (Jvm.Free.XT.ll_gt_f hPa) ?_
    refine o_iconst X hx hB at_102 (1) ?_
    refine o_goto X hx hB at_103 107 ?_
    refine o_istore X hx hB #[.val (.long pa), .second, .val (.long pb), .second, .val (.long ps), .second, .val (.int fl), .val (.int (0 : Int32)), .val (.int (0 : Int32)), .val (.ref b28), .val (.ref b68), .val (.int (1 : Int32)), .unset, .unset, .unset, .unset, .unset, .unset, .unset] at_107 rfl ?_
    refine o_iload X hx hB at_109 rfl ?_
    refine o_ifNo X hx hB at_111 (Jvm.Free.XT.i0_eq_f (by decide : ¬ ((1 : Int32) = 0))) ?_
    refine o_lloadN X hx hB at_114 rfl ?_
    refine o_lload X hx hB at_115 rfl ?_
    refine o_lcmp X hx hB at_117 ?_
    by_cases hPb : ps < pb
    · refine o_ifYes X hx hB at_118 (Jvm.Free.XT.ll_gt_t hPb) 125 ?_
      refine o_iconst X hx hB at_125 (0) ?_
      refine o_istore X hx hB #[.val (.long pa), .second, .val (.long pb), .second, .val (.long ps), .second, .val (.int fl), .val (.int (0 : Int32)), .val (.int (0 : Int32)), .val (.ref b28), .val (.ref b68), .val (.int (1 : Int32)), .val (.int (0 : Int32)), .unset, .unset, .unset, .unset, .unset, .unset] at_126 rfl ?_
      refine o_new X hx hZ hB hown (W 0 rfl) (W 1 rfl) (W 2 rfl) rfl at_128 (by decide) (by decide) fun T h121 b128 g121 X eT E121 A121 D121 => ?_
      have g_b128 := own_gn O g121
      have O := O.ext E121
      refine o_dup X hx hB at_131 rfl ?_
      have f122 := D121 (Or.inl (W 22 rfl)) (ty := .int) (by decide)
      have f123 := D121 (Or.inl (W 25 rfl)) (ty := (.array (.object "java/lang/Object"))) (by decide)
      have f124 := D121 (Or.inl (W 45 rfl)) (ty := .int) (by decide)
      refine own_kQ (own_csp X hx hZ hB (W := 1) hown rfl (W 3 rfl) (W 4 rfl) (W 5 rfl) (W 2 rfl) (by decide) (rm_1 l Z a0 hw [] dc kd cr cc mr hG b128 (0 : Int32) (0 : Int32) _ n0 (own_zO O) O A121 f122 f123 f124 g_b128) (by decide) (by decide) eT hml rfl pd_0 rfl rfl rfl at_132 (by decide) (by decide)) fun v T L125 hQ X => ?_
      obtain ⟨rfl, Nq125, Kq125, t125_0, t125_1, t125_2, t125_3⟩ := hQ
      have N := Fr.app N Nq125
      have O := O.keep Kq125 (allS g_b128 all0)
      refine o_astore X hx hB #[.val (.long pa), .second, .val (.long pb), .second, .val (.long ps), .second, .val (.int fl), .val (.int (0 : Int32)), .val (.int (0 : Int32)), .val (.ref b28), .val (.ref b68), .val (.int (1 : Int32)), .val (.int (0 : Int32)), .val (.ref b128), .unset, .unset, .unset, .unset, .unset] at_135 rfl rfl ?_
      refine o_new X hx hZ hB hown (W 0 rfl) (W 1 rfl) (W 2 rfl) rfl at_137 (by decide) (by decide) fun T h126 b137 g126 X eT E126 A126 D126 => ?_
      have g_b137 := own_gn O g126
      have O := O.ext E126
      refine o_dup X hx hB at_140 rfl ?_
      have f127 := D126 (Or.inl (W 22 rfl)) (ty := .int) (by decide)
      have f128 := D126 (Or.inl (W 25 rfl)) (ty := (.array (.object "java/lang/Object"))) (by decide)
      have f129 := D126 (Or.inl (W 45 rfl)) (ty := .int) (by decide)
      refine own_kQ (own_csp X hx hZ hB (W := 1) hown rfl (W 3 rfl) (W 4 rfl) (W 5 rfl) (W 2 rfl) (by decide) (rm_1 l Z a0 hw [] dc kd cr cc mr hG b137 (0 : Int32) (0 : Int32) _ n0 (own_zO O) O A126 f127 f128 f129 g_b137) (by decide) (by decide) eT hml rfl pd_0 rfl rfl rfl at_141 (by decide) (by decide)) fun v T L130 hQ X => ?_
      obtain ⟨rfl, Nq130, Kq130, t130_0, t130_1, t130_2, t130_3⟩ := hQ
      have N := Fr.app N Nq130
      have O := O.keep Kq130 (allS g_b137 all0)
      refine o_astore X hx hB #[.val (.long pa), .second, .val (.long pb), .second, .val (.long ps), .second, .val (.int fl), .val (.int (0 : Int32)), .val (.int (0 : Int32)), .val (.ref b28), .val (.ref b68), .val (.int (1 : Int32)), .val (.int (0 : Int32)), .val (.ref b128), .val (.ref b137), .unset, .unset, .unset, .unset] at_144 rfl rfl ?_
      refine o_iload X hx hB at_146 rfl ?_
      refine o_ifNo X hx hB at_148 (Jvm.Free.XT.i0_eq_f (by decide : ¬ ((1 : Int32) = 0))) ?_
      refine o_aload X hx hB at_151 rfl rfl ?_
      refine o_bipush X hx hB at_153 (10) ?_
      refine own_kP (own_cst X hx hZ hB (W := 1) hown (W 26 rfl) (W 27 rfl) (W 29 rfl) (W 28 rfl) (by decide) (rm_5 l Z a0 hw [] dc kd cr cc mr hG (10 : Int32) i10 _ n0 (own_zO O) O (by decide) (by decide) hin10 hs10) (by decide) (by decide) rfl hml rfl pd_21 rfl rfl rfl at_155 (by decide) (by decide)) rfl rfl fun T X eT => ?_
      have f131 := (t125_0.ext E126).keep Kq130
      have z132 := own_ne1 t125_0.lt g126
      have f133 := (t125_1.ext E126).keep Kq130 (ninS z132 nin0)
      have f134 := (t125_2.ext E126).keep Kq130 (ninS z132 nin0)
      have f135 := (t125_3.ext E126).keep Kq130 (ninS z132 nin0)
      refine own_kQ (own_cif X hx hZ hB (W := 0) hown (W 33 rfl) (W 34 rfl) (W 35 rfl) (W 36 rfl) (W 37 rfl) (W 38 rfl) (W 39 rfl) (W 40 rfl) (W 41 rfl) (W 2 rfl) (by decide) (rm_6f l Z a0 hw [] dc kd cr cc mr hG b128 i10 (0 : Int32) _ n0 (own_zO O) O f131 f133 f134 f135 g_b128 hX10) (by decide) (by decide) eT f131 hml rfl pd_7 rfl rfl rfl at_158 (by decide) (by decide)) fun v T L136 hQ X => ?_
      obtain ⟨b_158, k_158, rfl, Nq136, Kq136, t136_0, t136_1, t136_2, t136_3, t136_4, t136_5, t136_6⟩ := hQ
      have g_b_158 := Nat.le_trans (own_zO O) t136_5
      have N := Fr.app N Nq136
      have O := O.keep Kq136 (allS g_b128 all0)
      refine o_pop X hx hB at_163 rfl ?_
      refine o_iload X hx hB at_164 rfl ?_
      refine o_ifYes X hx hB at_166 (Jvm.Free.XT.i0_eq_t (by decide : (0 : Int32) = 0)) 216 ?_
      refine o_iload X hx hB at_216 rfl ?_
      refine o_ifNo X hx hB at_218 (Jvm.Free.XT.i0_ne_f (by decide : (0 : Int32) = 0)) ?_
      refine o_iload X hx hB at_221 rfl ?_
      refine o_ifYes X hx hB at_223 (Jvm.Free.XT.i0_eq_t (by decide : (0 : Int32) = 0)) 242 ?_
      refine o_aload X hx hB at_242 rfl rfl ?_
      refine o_bipush X hx hB at_244 (20) ?_
      refine own_kP (own_cst X hx hZ hB (W := 1) hown (W 26 rfl) (W 27 rfl) (W 29 rfl) (W 28 rfl) (by decide) (rm_5 l Z a0 hw [] dc kd cr cc mr hG (20 : Int32) i20 _ n0 (own_zO O) O (by decide) (by decide) hin20 hs20) (by decide) (by decide) rfl hml rfl pd_21 rfl rfl rfl at_246 (by decide) (by decide)) rfl rfl fun T X eT => ?_
      have f137 := t130_0.keep Kq136
      have f138 := t130_1.keep Kq136 (ninS (Ne.symm z132) nin0)
      have f139 := t130_2.keep Kq136 (ninS (Ne.symm z132) nin0)
      have f140 := t130_3.keep Kq136 (ninS (Ne.symm z132) nin0)
      refine own_kQ (own_cif X hx hZ hB (W := 0) hown (W 33 rfl) (W 34 rfl) (W 35 rfl) (W 36 rfl) (W 37 rfl) (W 38 rfl) (W 39 rfl) (W 40 rfl) (W 41 rfl) (W 2 rfl) (by decide) (rm_6f l Z a0 hw [] dc kd cr cc mr hG b137 i20 (0 : Int32) _ n0 (own_zO O) O f137 f138 f139 f140 g_b137 hX20) (by decide) (by decide) eT f137 hml rfl pd_7 rfl rfl rfl at_249 (by decide) (by decide)) fun v T L141 hQ X => ?_
      obtain ⟨b_249, k_249, rfl, Nq141, Kq141, t141_0, t141_1, t141_2, t141_3, t141_4, t141_5, t141_6⟩ := hQ
      have g_b_249 := Nat.le_trans (own_zO O) t141_5
      have N := Fr.app N Nq141
      have O := O.keep Kq141 (allS g_b137 all0)
      refine o_pop X hx hB at_254 rfl ?_
      refine o_iload X hx hB at_255 rfl ?_
      refine o_ifNo X hx hB at_257 (Jvm.Free.XT.i0_eq_f (by decide : ¬ ((1 : Int32) = 0))) ?_
      refine o_iconst X hx hB at_260 (0) ?_
      refine o_goto X hx hB at_261 265 ?_
      refine o_iload X hx hB at_265 rfl ?_
      refine o_ifYes X hx hB at_267 (Jvm.Free.XT.i0_eq_t (by decide : (0 : Int32) = 0)) 274 ?_
      refine o_iconst X hx hB at_274 (1) ?_
      refine o_iadd X hx hB at_275 ?_
      refine o_istore X hx hB #[.val (.long pa), .second, .val (.long pb), .second, .val (.long ps), .second, .val (.int fl), .val (.int (0 : Int32)), .val (.int (0 : Int32)), .val (.ref b28), .val (.ref b68), .val (.int (1 : Int32)), .val (.int (0 : Int32)), .val (.ref b128), .val (.ref b137), .val (.int ((0 : Int32) + (1 : Int32))), .unset, .unset, .unset] at_276 rfl ?_
      refine o_new X hx hZ hB hown (W 68 rfl) (W 69 rfl) (W 70 rfl) rfl at_278 (by decide) (by decide) fun T h142 b278 g142 X eT E142 A142 D142 => ?_
      have g_b278 := own_gn O g142
      have O := O.ext E142
      refine o_dup X hx hB at_281 rfl ?_
      have f143 := D142 (Or.inr (W 87 rfl)) (ty := (.object "java/util/Deque")) (by decide)
      refine own_kQ (own_csp X hx hZ hB (W := 1) hown rfl (W 71 rfl) (W 72 rfl) (W 73 rfl) (W 70 rfl) (by decide) (rm_11 l Z a0 hw [] dc kd cr cc mr hG b278 _ n0 (own_zO O) O A142 f143 g_b278) (by decide) (by decide) eT hml rfl pd_0 rfl rfl rfl at_282 (by decide) (by decide)) fun v T L144 hQ X => ?_
      obtain ⟨d_282, ea_282, k_282, rfl, Nq144, Kq144, t144_0, t144_1, t144_2, t144_3, t144_4, t144_5, t144_6, t144_7, t144_8⟩ := hQ
      have g_d_282 := Nat.le_trans (own_zO O) t144_7
      have g_ea_282 := Nat.le_trans (own_zO O) t144_8
      have N := Fr.app N Nq144
      have O := O.keep Kq144 (allS g_b278 all0)
      refine o_astore X hx hB #[.val (.long pa), .second, .val (.long pb), .second, .val (.long ps), .second, .val (.int fl), .val (.int (0 : Int32)), .val (.int (0 : Int32)), .val (.ref b28), .val (.ref b68), .val (.int (1 : Int32)), .val (.int (0 : Int32)), .val (.ref b128), .val (.ref b137), .val (.int ((0 : Int32) + (1 : Int32))), .val (.ref b278), .unset, .unset] at_285 rfl rfl ?_
      refine o_aload X hx hB at_287 rfl rfl ?_
      refine o_lloadN X hx hB at_289 rfl ?_
      refine o_aload X hx hB at_290 rfl rfl ?_
      have f145 := own_castA (us := (own_p 17 [])) (by rfl) t144_6
      have f146 := ((own_castA (us := (own_p 17 [])) (by rfl) t144_6)).2.2.2
      have z147 := Exa.ne t144_2 f146 (by decide)
      refine own_kQ (own_cvi X hx hZ hB (W := 0) hown (W 88 rfl) (W 89 rfl) (W 91 rfl) (W 90 rfl) (W 92 rfl) (W 70 rfl) (by decide) (rm_13 l Z a0 hw [] dc kd cr cc mr hG b278 pa b28 d_282 ea_282 k_282 (own_p 17 []) (0 : Int32) (0 : Int32) _ n0 (own_zO O) O t144_0 t144_1 t144_2 t144_3 t144_4 t144_5 f145 z147 g_d_282 g_ea_282 ⟨by decide, by decide⟩ (by decide) (by decide)) (by decide) (by decide) rfl t144_0 hml rfl pd_6 rfl rfl rfl at_292 (by decide) (by decide)) fun v T L148 hQ X => ?_
      obtain ⟨x_292, rfl, Nq148, Kq148, t148_0, t148_1, t148_2, t148_3, t148_4, t148_5, t148_6, t148_7, t148_8, t148_9, t148_10, t148_11⟩ := hQ
      have g_x_292 := Nat.le_trans (own_zO O) t148_11
      have N := Fr.app N Nq148
      have O := O.keep Kq148 (allS g_d_282 (allS g_ea_282 all0))
      refine o_aload X hx hB at_295 rfl rfl ?_
      refine o_lloadN X hx hB at_297 rfl ?_
      refine o_aload X hx hB at_298 rfl rfl ?_
      have f149 := own_castI (j := (1 : Int32)) (by decide) t148_5
      have f150 := own_castA (us := (own_p 17 [.ref x_292])) (by rfl) t148_6
      refine own_kQ (own_cvi X hx hZ hB (W := 0) hown (W 88 rfl) (W 89 rfl) (W 91 rfl) (W 90 rfl) (W 92 rfl) (W 70 rfl) (by decide) (rm_13 l Z a0 hw [] dc kd cr cc mr hG b278 pb b68 d_282 ea_282 k_282 (own_p 17 [.ref x_292]) (0 : Int32) (1 : Int32) _ n0 (own_zO O) O t148_0 t148_1 t148_2 t148_3 t148_4 f149 f150 t148_7 g_d_282 g_ea_282 ⟨by decide, by decide⟩ (by decide) (by decide)) (by decide) (by decide) rfl t148_0 hml rfl pd_6 rfl rfl rfl at_300 (by decide) (by decide)) fun v T L151 hQ X => ?_
      obtain ⟨x_300, rfl, Nq151, Kq151, t151_0, t151_1, t151_2, t151_3, t151_4, t151_5, t151_6, t151_7, t151_8, t151_9, t151_10, t151_11⟩ := hQ
      have g_x_300 := Nat.le_trans (own_zO O) t151_11
      have N := Fr.app N Nq151
      have O := O.keep Kq151 (allS g_d_282 (allS g_ea_282 all0))
      refine o_aload X hx hB at_303 rfl rfl ?_
      have f152 := own_castI (j := (2 : Int32)) (by decide) t151_5
      have f153 := own_castA (us := (own_p 17 [.ref x_292, .ref x_300])) (by rfl) t151_6
      refine own_kP (own_cvi X hx hZ hB (W := 0) hown (W 131 rfl) (W 132 rfl) (W 134 rfl) (W 133 rfl) (W 135 rfl) (W 70 rfl) (by decide) (rm_19 l Z a0 hw [] dc kd cr cc mr hG b278 d_282 ea_282 k_282 (own_p 17 [.ref x_292, .ref x_300]) (0 : Int32) (2 : Int32) _ n0 (own_zO O) O t151_0 t151_1 t151_2 t151_3 t151_4 f152 f153 (by decide)) (by decide) (by decide) rfl t151_0 hml rfl pd_9 rfl rfl rfl at_305 (by decide) (by decide)) rfl rfl fun T X eT => ?_
      refine o_iconst X hx hB at_308 (2) ?_
      refine o_icmpYes X hx hB at_309 (Jvm.Free.XT.ii_eq_t (by decide : ((2 : Int32) - (0 : Int32)) = (2 : Int32))) 314 ?_
      refine o_aload X hx hB at_314 rfl rfl ?_
      refine o_lload X hx hB at_316 rfl ?_
      have f154 := t148_8.keep Kq151
      have z155 := own_ne2 f146.lt t148_11
      have z156 := own_ne2 t144_2.lt t148_11
      have f157 := t148_9.keep Kq151 (ninS (Ne.symm z156) (ninS (Ne.symm z155) nin0))
      have f158 := t148_10.keep Kq151 (ninS (Ne.symm z156) (ninS (Ne.symm z155) nin0))
      have f159 := ((((((((((((t6_0.ext E7).keep Kq11).keep Kq12).ext E121).keep Kq125).ext E126).keep Kq130).keep Kq136).keep Kq141).ext E142).keep Kq144).keep Kq148).keep Kq151
      have z160 := own_ne1 t6_0.lt g7
      have z161 := own_ne1 (((t6_0.ext E7).keep Kq11).keep Kq12).lt g121
      have z162 := own_ne1 (((((t6_0.ext E7).keep Kq11).keep Kq12).ext E121).keep Kq125).lt g126
      have z163 := own_ne1 (((((((((t6_0.ext E7).keep Kq11).keep Kq12).ext E121).keep Kq125).ext E126).keep Kq130).keep Kq136).keep Kq141).lt g142
      have z164 := own_ne2 ((((((((((t6_0.ext E7).keep Kq11).keep Kq12).ext E121).keep Kq125).ext E126).keep Kq130).keep Kq136).keep Kq141).ext E142).lt t144_8
      have z165 := own_ne2 ((((((((((t6_0.ext E7).keep Kq11).keep Kq12).ext E121).keep Kq125).ext E126).keep Kq130).keep Kq136).keep Kq141).ext E142).lt t144_7
      have f166 := ((((((((((((t6_2.ext E7).keep Kq11 (ninS z160 nin0)).keep Kq12 (ninS z160 nin0)).ext E121).keep Kq125 (ninS z161 nin0)).ext E126).keep Kq130 (ninS z162 nin0)).keep Kq136 (ninS z161 nin0)).keep Kq141 (ninS z162 nin0)).ext E142).keep Kq144 (ninS z163 nin0)).keep Kq148 (ninS z165 (ninS z164 nin0))).keep Kq151 (ninS z165 (ninS z164 nin0))
      have f167 := (((((((((((((own_castI (j := (1 : Int32)) (by decide) t6_3).ext E7).keep Kq11 (ninS z160 nin0)).keep Kq12 (ninS z160 nin0)).ext E121).keep Kq125 (ninS z161 nin0)).ext E126).keep Kq130 (ninS z162 nin0)).keep Kq136 (ninS z161 nin0)).keep Kq141 (ninS z162 nin0)).ext E142).keep Kq144 (ninS z163 nin0)).keep Kq148 (ninS z165 (ninS z164 nin0))).keep Kq151 (ninS z165 (ninS z164 nin0))
      have z168 := own_ne1 ((own_castA (us := (own_p 10 [.ref i10])) (by rfl) t6_4)).2.2.2.lt g7
      have z169 := own_ne1 (((((own_castA (us := (own_p 10 [.ref i10])) (by rfl) t6_4)).2.2.2.ext E7).keep Kq11).keep Kq12).lt g121
      have z170 := own_ne1 (((((((own_castA (us := (own_p 10 [.ref i10])) (by rfl) t6_4)).2.2.2.ext E7).keep Kq11).keep Kq12).ext E121).keep Kq125).lt g126
      have z171 := own_ne1 (((((((((((own_castA (us := (own_p 10 [.ref i10])) (by rfl) t6_4)).2.2.2.ext E7).keep Kq11).keep Kq12).ext E121).keep Kq125).ext E126).keep Kq130).keep Kq136).keep Kq141).lt g142
      have z172 := own_ne2 ((((((((((((own_castA (us := (own_p 10 [.ref i10])) (by rfl) t6_4)).2.2.2.ext E7).keep Kq11).keep Kq12).ext E121).keep Kq125).ext E126).keep Kq130).keep Kq136).keep Kq141).ext E142).lt t144_8
      have z173 := own_ne2 ((((((((((((own_castA (us := (own_p 10 [.ref i10])) (by rfl) t6_4)).2.2.2.ext E7).keep Kq11).keep Kq12).ext E121).keep Kq125).ext E126).keep Kq130).keep Kq136).keep Kq141).ext E142).lt t144_7
      have f174 := (((((((((((((own_castA (us := (own_p 10 [.ref i10])) (by rfl) t6_4).ext E7).keep Kq11 (ninS z168 nin0)).keep Kq12 (ninS z168 nin0)).ext E121).keep Kq125 (ninS z169 nin0)).ext E126).keep Kq130 (ninS z170 nin0)).keep Kq136 (ninS z169 nin0)).keep Kq141 (ninS z170 nin0)).ext E142).keep Kq144 (ninS z171 nin0)).keep Kq148 (ninS z173 (ninS z172 nin0))).keep Kq151 (ninS z173 (ninS z172 nin0))
      refine own_kQ (own_cvi X hx hZ hB (W := 0) hown (W 147 rfl) (W 148 rfl) (W 150 rfl) (W 149 rfl) (W 151 rfl) (W 70 rfl) (by decide) (rm_22_B l Z a0 hw [] dc kd cr cc mr hG b278 ps d_282 ea_282 k_282 (own_p 17 [.ref x_292, .ref x_300]) (0 : Int32) (2 : Int32) x_292 pa b28 b_44 (1 : Int32) k_44 (own_p 10 [.ref i10]) [Value.ref i10] x_300 pb b68 _ n0 (own_zO O) O t151_0 t151_1 t151_2 t151_3 t151_4 f152 f153 t151_7 f154 f157 f158 f159 f166 f167 f174 (Ne.symm z172) t151_8 t151_9 t151_10 g_d_282 g_ea_282 (by decide) ⟨by decide, by decide⟩ (by rfl) hPa (by decide) (by decide) (by decide) (by decide) (by decide) (by rfl) ⟨rfl, (own_cI hX10 own_nI)⟩ (by decide) (by decide) (by decide) (by decide) ⟨by decide, by decide⟩ (by rfl) hPb) (by decide) (by decide) eT t151_0 hml rfl pd_20 rfl rfl rfl at_318 (by decide) (by decide)) fun v T L175 hQ X => ?_
      obtain ⟨b_318, eb_318, ke0_318, rfl, Nq175, Kq175, t175_0, t175_1, t175_2, t175_3, t175_4, t175_5, t175_6, t175_7, t175_8, t175_9, t175_10, t175_11, t175_12, t175_13⟩ := hQ
      have g_b_318 := Nat.le_trans (own_zO O) t175_4
      have g_eb_318 := Nat.le_trans (own_zO O) t175_7
      have N := Fr.app N Nq175
      have O := O.keep Kq175 (allS g_d_282 (allS g_ea_282 all0))
      refine o_astore X hx hB #[.val (.long pa), .second, .val (.long pb), .second, .val (.long ps), .second, .val (.int fl), .val (.int (0 : Int32)), .val (.int (0 : Int32)), .val (.ref b28), .val (.ref b68), .val (.int (1 : Int32)), .val (.int (0 : Int32)), .val (.ref b128), .val (.ref b137), .val (.int ((0 : Int32) + (1 : Int32))), .val (.ref b278), .val (.ref b_318), .unset] at_321 rfl rfl ?_
      refine o_aload X hx hB at_323 rfl rfl ?_
      refine o_aload X hx hB at_325 rfl rfl ?_
      have f176 := own_castI (j := (1 : Int32)) (by decide) t175_3
      have f177 := own_castA (us := (own_p 10 [.ref i10])) (by rfl) t175_5
      have f178 := (((((t136_0.keep Kq141).ext E142).keep Kq144).keep Kq148).keep Kq151).keep Kq175
      have z179 := own_ne1 (t136_0.keep Kq141).lt g142
      have z180 := own_ne2 ((t136_0.keep Kq141).ext E142).lt t144_8
      have z181 := own_ne2 ((t136_0.keep Kq141).ext E142).lt t144_7
      have f182 := (((((t136_2.keep Kq141 (ninS z132 nin0)).ext E142).keep Kq144 (ninS z179 nin0)).keep Kq148 (ninS z181 (ninS z180 nin0))).keep Kq151 (ninS z181 (ninS z180 nin0))).keep Kq175 (ninS z181 (ninS z180 nin0))
      have f183 := ((((((own_castI (j := (1 : Int32)) (by decide) t136_3).keep Kq141 (ninS z132 nin0)).ext E142).keep Kq144 (ninS z179 nin0)).keep Kq148 (ninS z181 (ninS z180 nin0))).keep Kq151 (ninS z181 (ninS z180 nin0))).keep Kq175 (ninS z181 (ninS z180 nin0))
      have z184 := own_ne2 t130_0.lt t136_5
      have z185 := own_ne1 (((own_castA (us := (own_p 10 [.ref i10])) (by rfl) t136_4)).2.2.2.keep Kq141).lt g142
      have z186 := own_ne2 ((((own_castA (us := (own_p 10 [.ref i10])) (by rfl) t136_4)).2.2.2.keep Kq141).ext E142).lt t144_8
      have z187 := own_ne2 ((((own_castA (us := (own_p 10 [.ref i10])) (by rfl) t136_4)).2.2.2.keep Kq141).ext E142).lt t144_7
      have f188 := ((((((own_castA (us := (own_p 10 [.ref i10])) (by rfl) t136_4).keep Kq141 (ninS (Ne.symm z184) nin0)).ext E142).keep Kq144 (ninS z185 nin0)).keep Kq148 (ninS z187 (ninS z186 nin0))).keep Kq151 (ninS z187 (ninS z186 nin0))).keep Kq175 (ninS z187 (ninS z186 nin0))
      refine own_kP (own_cst X hx hZ hB (W := 0) hown (W 184 rfl) (W 185 rfl) (W 187 rfl) (W 186 rfl) (by decide) (rm_28_1 l Z a0 hw [] dc kd cr cc mr hG b_318 b128 eb_318 ke0_318 (own_p 10 [.ref i10]) b_158 k_158 (own_p 10 [.ref i10]) i10 vv10 _ n0 (own_zO O) O t175_0 t175_2 f176 f177 f178 f182 f183 f188 (hX10.ext O.2) (hV10.ext O.2) (by rfl) (by rfl)) (by decide) (by decide) rfl hml rfl pd_22 rfl rfl rfl at_327 (by decide) (by decide)) rfl rfl fun T X eT => ?_
      refine o_ifYes X hx hB at_330 (Jvm.Free.XT.i0_ne_t (by decide : ¬ ((1 : Int32) = 0))) 335 ?_
      refine o_aload X hx hB at_335 rfl rfl ?_
      have f189 := t151_0.keep Kq175
      have z190 := own_ne2 A142.lt t144_8
      have z191 := own_ne2 A142.lt t144_7
      have f192 := t151_1.keep Kq175 (ninS z191 (ninS z190 nin0))
      have f193 := own_castI (j := (1 : Int32)) (by decide) t175_10
      have f194 := own_castA (us := (own_p 17 [.null, .ref x_300])) (by rfl) t175_12
      refine own_kP (own_cvi X hx hZ hB (W := 0) hown (W 131 rfl) (W 132 rfl) (W 134 rfl) (W 133 rfl) (W 135 rfl) (W 70 rfl) (by decide) (rm_19 l Z a0 hw [] dc kd cr cc mr hG b278 d_282 ea_282 k_282 (own_p 17 [.null, .ref x_300]) (1 : Int32) (2 : Int32) _ n0 (own_zO O) O f189 f192 t175_8 t175_9 f193 t175_11 f194 (by decide)) (by decide) (by decide) eT f189 hml rfl pd_9 rfl rfl rfl at_337 (by decide) (by decide)) rfl rfl fun T X eT => ?_
      refine o_iload X hx hB at_340 rfl ?_
      refine o_icmpYes X hx hB at_342 (Jvm.Free.XT.ii_eq_t (by decide : ((2 : Int32) - (1 : Int32)) = ((0 : Int32) + (1 : Int32)))) 347 ?_
      refine o_aload X hx hB at_347 rfl rfl ?_
      have f195 := t151_8.keep Kq175
      have z196 := own_ne2 (f146.keep Kq148).lt t151_11
      have z197 := own_ne2 t148_2.lt t151_11
      have f198 := t151_9.keep Kq175 (ninS (Ne.symm z197) (ninS (Ne.symm z196) nin0))
      have f199 := t151_10.keep Kq175 (ninS (Ne.symm z197) (ninS (Ne.symm z196) nin0))
      have f200 := ((((((((((t12_0.ext E121).keep Kq125).ext E126).keep Kq130).keep Kq136).keep Kq141).ext E142).keep Kq144).keep Kq148).keep Kq151).keep Kq175
      have z201 := own_ne1 t12_0.lt g121
      have z202 := own_ne1 ((t12_0.ext E121).keep Kq125).lt g126
      have z203 := own_ne1 ((((((t12_0.ext E121).keep Kq125).ext E126).keep Kq130).keep Kq136).keep Kq141).lt g142
      have z204 := own_ne2 (((((((t12_0.ext E121).keep Kq125).ext E126).keep Kq130).keep Kq136).keep Kq141).ext E142).lt t144_8
      have z205 := own_ne2 (((((((t12_0.ext E121).keep Kq125).ext E126).keep Kq130).keep Kq136).keep Kq141).ext E142).lt t144_7
      have f206 := ((((((((((t12_2.ext E121).keep Kq125 (ninS z201 nin0)).ext E126).keep Kq130 (ninS z202 nin0)).keep Kq136 (ninS z201 nin0)).keep Kq141 (ninS z202 nin0)).ext E142).keep Kq144 (ninS z203 nin0)).keep Kq148 (ninS z205 (ninS z204 nin0))).keep Kq151 (ninS z205 (ninS z204 nin0))).keep Kq175 (ninS z205 (ninS z204 nin0))
      have f207 := (((((((((((own_castI (j := (1 : Int32)) (by decide) t12_3).ext E121).keep Kq125 (ninS z201 nin0)).ext E126).keep Kq130 (ninS z202 nin0)).keep Kq136 (ninS z201 nin0)).keep Kq141 (ninS z202 nin0)).ext E142).keep Kq144 (ninS z203 nin0)).keep Kq148 (ninS z205 (ninS z204 nin0))).keep Kq151 (ninS z205 (ninS z204 nin0))).keep Kq175 (ninS z205 (ninS z204 nin0))
      have z208 := own_ne1 ((own_castA (us := (own_p 10 [.ref i20])) (by rfl) t12_4)).2.2.2.lt g121
      have z209 := own_ne1 ((((own_castA (us := (own_p 10 [.ref i20])) (by rfl) t12_4)).2.2.2.ext E121).keep Kq125).lt g126
      have z210 := own_ne1 ((((((((own_castA (us := (own_p 10 [.ref i20])) (by rfl) t12_4)).2.2.2.ext E121).keep Kq125).ext E126).keep Kq130).keep Kq136).keep Kq141).lt g142
      have z211 := own_ne2 (((((((((own_castA (us := (own_p 10 [.ref i20])) (by rfl) t12_4)).2.2.2.ext E121).keep Kq125).ext E126).keep Kq130).keep Kq136).keep Kq141).ext E142).lt t144_8
      have z212 := own_ne2 (((((((((own_castA (us := (own_p 10 [.ref i20])) (by rfl) t12_4)).2.2.2.ext E121).keep Kq125).ext E126).keep Kq130).keep Kq136).keep Kq141).ext E142).lt t144_7
      have f213 := (((((((((((own_castA (us := (own_p 10 [.ref i20])) (by rfl) t12_4).ext E121).keep Kq125 (ninS z208 nin0)).ext E126).keep Kq130 (ninS z209 nin0)).keep Kq136 (ninS z208 nin0)).keep Kq141 (ninS z209 nin0)).ext E142).keep Kq144 (ninS z210 nin0)).keep Kq148 (ninS z212 (ninS z211 nin0))).keep Kq151 (ninS z212 (ninS z211 nin0))).keep Kq175 (ninS z212 (ninS z211 nin0))
      refine own_kQ (own_cvi X hx hZ hB (W := 0) hown (W 196 rfl) (W 197 rfl) (W 199 rfl) (W 198 rfl) (W 200 rfl) (W 70 rfl) (by decide) (rm_30_1f l Z a0 hw [] dc kd cr cc mr hG b278 d_282 ea_282 k_282 (own_p 17 [.null, .ref x_300]) (1 : Int32) (2 : Int32) x_300 pb b68 b_89 (1 : Int32) k_89 (own_p 10 [.ref i20]) [Value.ref i20] _ n0 (own_zO O) O f189 f192 t175_8 t175_9 f193 t175_11 f194 t175_13 f195 f198 f199 f200 f206 f207 f213 (Ne.symm z211) g_d_282 g_ea_282 (by decide) ⟨by decide, by decide⟩ (by rfl) (own_mx pb) (by decide) (by decide) (by decide) (by decide) (by decide) (by rfl) ⟨rfl, (own_cI hX20 own_nI)⟩ (by decide) (by decide) (by decide) (by decide)) (by decide) (by decide) eT f189 hml rfl pd_18 rfl rfl rfl at_349 (by decide) (by decide)) fun v T L214 hQ X => ?_
      obtain ⟨b_349, eb_349, ke0_349, rfl, Nq214, Kq214, t214_0, t214_1, t214_2, t214_3, t214_4, t214_5, t214_6, t214_7, t214_8, t214_9, t214_10, t214_11, t214_12, t214_13⟩ := hQ
      have g_b_349 := Nat.le_trans (own_zO O) t214_4
      have g_eb_349 := Nat.le_trans (own_zO O) t214_7
      have N := Fr.app N Nq214
      have O := O.keep Kq214 (allS g_d_282 (allS g_ea_282 all0))
      refine o_astore X hx hB #[.val (.long pa), .second, .val (.long pb), .second, .val (.long ps), .second, .val (.int fl), .val (.int (0 : Int32)), .val (.int (0 : Int32)), .val (.ref b28), .val (.ref b68), .val (.int (1 : Int32)), .val (.int (0 : Int32)), .val (.ref b128), .val (.ref b137), .val (.int ((0 : Int32) + (1 : Int32))), .val (.ref b278), .val (.ref b_318), .val (.ref b_349)] at_352 rfl rfl ?_
      refine o_aload X hx hB at_354 rfl rfl ?_
      refine o_aload X hx hB at_356 rfl rfl ?_
      have f215 := own_castI (j := (1 : Int32)) (by decide) t214_3
      have f216 := own_castA (us := (own_p 10 [.ref i20])) (by rfl) t214_5
      have f217 := (((((t141_0.ext E142).keep Kq144).keep Kq148).keep Kq151).keep Kq175).keep Kq214
      have z218 := own_ne1 t141_0.lt g142
      have z219 := own_ne2 (t141_0.ext E142).lt t144_8
      have z220 := own_ne2 (t141_0.ext E142).lt t144_7
      have f221 := (((((t141_2.ext E142).keep Kq144 (ninS z218 nin0)).keep Kq148 (ninS z220 (ninS z219 nin0))).keep Kq151 (ninS z220 (ninS z219 nin0))).keep Kq175 (ninS z220 (ninS z219 nin0))).keep Kq214 (ninS z220 (ninS z219 nin0))
      have f222 := ((((((own_castI (j := (1 : Int32)) (by decide) t141_3).ext E142).keep Kq144 (ninS z218 nin0)).keep Kq148 (ninS z220 (ninS z219 nin0))).keep Kq151 (ninS z220 (ninS z219 nin0))).keep Kq175 (ninS z220 (ninS z219 nin0))).keep Kq214 (ninS z220 (ninS z219 nin0))
      have z223 := own_ne1 ((own_castA (us := (own_p 10 [.ref i20])) (by rfl) t141_4)).2.2.2.lt g142
      have z224 := own_ne2 (((own_castA (us := (own_p 10 [.ref i20])) (by rfl) t141_4)).2.2.2.ext E142).lt t144_8
      have z225 := own_ne2 (((own_castA (us := (own_p 10 [.ref i20])) (by rfl) t141_4)).2.2.2.ext E142).lt t144_7
      have f226 := ((((((own_castA (us := (own_p 10 [.ref i20])) (by rfl) t141_4).ext E142).keep Kq144 (ninS z223 nin0)).keep Kq148 (ninS z225 (ninS z224 nin0))).keep Kq151 (ninS z225 (ninS z224 nin0))).keep Kq175 (ninS z225 (ninS z224 nin0))).keep Kq214 (ninS z225 (ninS z224 nin0))
      refine own_kP (own_cst X hx hZ hB (W := 0) hown (W 184 rfl) (W 185 rfl) (W 187 rfl) (W 186 rfl) (by decide) (rm_28_1 l Z a0 hw [] dc kd cr cc mr hG b_349 b137 eb_349 ke0_349 (own_p 10 [.ref i20]) b_249 k_249 (own_p 10 [.ref i20]) i20 vv20 _ n0 (own_zO O) O t214_0 t214_2 f215 f216 f217 f221 f222 f226 (hX20.ext O.2) (hV20.ext O.2) (by rfl) (by rfl)) (by decide) (by decide) rfl hml rfl pd_22 rfl rfl rfl at_358 (by decide) (by decide)) rfl rfl fun T X eT => ?_
      refine o_ifYes X hx hB at_361 (Jvm.Free.XT.i0_ne_t (by decide : ¬ ((1 : Int32) = 0))) 366 ?_
      refine o_aload X hx hB at_366 rfl rfl ?_
      have f227 := f189.keep Kq214
      have f228 := f192.keep Kq214 (ninS z191 (ninS z190 nin0))
      have f229 := own_castI (j := (2 : Int32)) (by decide) t214_10
      have f230 := own_castA (us := (own_p 17 [.null, .null])) (by rfl) t214_12
      refine own_kP (own_cvi X hx hZ hB (W := 0) hown (W 131 rfl) (W 132 rfl) (W 134 rfl) (W 133 rfl) (W 135 rfl) (W 70 rfl) (by decide) (rm_19 l Z a0 hw [] dc kd cr cc mr hG b278 d_282 ea_282 k_282 (own_p 17 [.null, .null]) (2 : Int32) (2 : Int32) _ n0 (own_zO O) O f227 f228 t214_8 t214_9 f229 t214_11 f230 (by decide)) (by decide) (by decide) eT f227 hml rfl pd_9 rfl rfl rfl at_368 (by decide) (by decide)) rfl rfl fun T X eT => ?_
      refine o_ifNo X hx hB at_371 (Jvm.Free.XT.i0_ne_f (by decide : ((2 : Int32) - (2 : Int32)) = 0)) ?_
      refine o_iconst X hx hB at_374 (1) ?_
      refine o_goto X hx hB at_375 379 ?_
      exact own_retN X hx (t := .boolean) Bd.returns (by simp) (hb hB at_379) (BodyLoose.notSynchronized Bd) (w := (1 : Int32)) rfl ⟨rfl, N⟩ (by decide) (by decide)
    · refine o_ifNo X hx hB at_118 (Jvm.Free.XT.ll_gt_f hPb) ?_
      refine o_iconst X hx hB at_121 (1) ?_
      refine o_goto X hx hB at_122 126 ?_
      refine o_istore X hx hB #[.val (.long pa), .second, .val (.long pb), .second, .val (.long ps), .second, .val (.int fl), .val (.int (0 : Int32)), .val (.int (0 : Int32)), .val (.ref b28), .val (.ref b68), .val (.int (1 : Int32)), .val (.int (1 : Int32)), .unset, .unset, .unset, .unset, .unset, .unset] at_126 rfl ?_
      refine o_new X hx hZ hB hown (W 0 rfl) (W 1 rfl) (W 2 rfl) rfl at_128 (by decide) (by decide) fun T h231 b128 g231 X eT E231 A231 D231 => ?_
      have g_b128 := own_gn O g231
      have O := O.ext E231
      refine o_dup X hx hB at_131 rfl ?_
      have f232 := D231 (Or.inl (W 22 rfl)) (ty := .int) (by decide)
      have f233 := D231 (Or.inl (W 25 rfl)) (ty := (.array (.object "java/lang/Object"))) (by decide)
      have f234 := D231 (Or.inl (W 45 rfl)) (ty := .int) (by decide)
      refine own_kQ (own_csp X hx hZ hB (W := 1) hown rfl (W 3 rfl) (W 4 rfl) (W 5 rfl) (W 2 rfl) (by decide) (rm_1 l Z a0 hw [] dc kd cr cc mr hG b128 (0 : Int32) (0 : Int32) _ n0 (own_zO O) O A231 f232 f233 f234 g_b128) (by decide) (by decide) eT hml rfl pd_0 rfl rfl rfl at_132 (by decide) (by decide)) fun v T L235 hQ X => ?_
      obtain ⟨rfl, Nq235, Kq235, t235_0, t235_1, t235_2, t235_3⟩ := hQ
      have N := Fr.app N Nq235
      have O := O.keep Kq235 (allS g_b128 all0)
      refine o_astore X hx hB #[.val (.long pa), .second, .val (.long pb), .second, .val (.long ps), .second, .val (.int fl), .val (.int (0 : Int32)), .val (.int (0 : Int32)), .val (.ref b28), .val (.ref b68), .val (.int (1 : Int32)), .val (.int (1 : Int32)), .val (.ref b128), .unset, .unset, .unset, .unset, .unset] at_135 rfl rfl ?_
      refine o_new X hx hZ hB hown (W 0 rfl) (W 1 rfl) (W 2 rfl) rfl at_137 (by decide) (by decide) fun T h236 b137 g236 X eT E236 A236 D236 => ?_
      have g_b137 := own_gn O g236
      have O := O.ext E236
      refine o_dup X hx hB at_140 rfl ?_
      have f237 := D236 (Or.inl (W 22 rfl)) (ty := .int) (by decide)
      have f238 := D236 (Or.inl (W 25 rfl)) (ty := (.array (.object "java/lang/Object"))) (by decide)
      have f239 := D236 (Or.inl (W 45 rfl)) (ty := .int) (by decide)
      refine own_kQ (own_csp X hx hZ hB (W := 1) hown rfl (W 3 rfl) (W 4 rfl) (W 5 rfl) (W 2 rfl) (by decide) (rm_1 l Z a0 hw [] dc kd cr cc mr hG b137 (0 : Int32) (0 : Int32) _ n0 (own_zO O) O A236 f237 f238 f239 g_b137) (by decide) (by decide) eT hml rfl pd_0 rfl rfl rfl at_141 (by decide) (by decide)) fun v T L240 hQ X => ?_
      obtain ⟨rfl, Nq240, Kq240, t240_0, t240_1, t240_2, t240_3⟩ := hQ
      have N := Fr.app N Nq240
      have O := O.keep Kq240 (allS g_b137 all0)
      refine o_astore X hx hB #[.val (.long pa), .second, .val (.long pb), .second, .val (.long ps), .second, .val (.int fl), .val (.int (0 : Int32)), .val (.int (0 : Int32)), .val (.ref b28), .val (.ref b68), .val (.int (1 : Int32)), .val (.int (1 : Int32)), .val (.ref b128), .val (.ref b137), .unset, .unset, .unset, .unset] at_144 rfl rfl ?_
      refine o_iload X hx hB at_146 rfl ?_
      refine o_ifNo X hx hB at_148 (Jvm.Free.XT.i0_eq_f (by decide : ¬ ((1 : Int32) = 0))) ?_
      refine o_aload X hx hB at_151 rfl rfl ?_
      refine o_bipush X hx hB at_153 (10) ?_
      refine own_kP (own_cst X hx hZ hB (W := 1) hown (W 26 rfl) (W 27 rfl) (W 29 rfl) (W 28 rfl) (by decide) (rm_5 l Z a0 hw [] dc kd cr cc mr hG (10 : Int32) i10 _ n0 (own_zO O) O (by decide) (by decide) hin10 hs10) (by decide) (by decide) rfl hml rfl pd_21 rfl rfl rfl at_155 (by decide) (by decide)) rfl rfl fun T X eT => ?_
      have f241 := (t235_0.ext E236).keep Kq240
      have z242 := own_ne1 t235_0.lt g236
      have f243 := (t235_1.ext E236).keep Kq240 (ninS z242 nin0)
      have f244 := (t235_2.ext E236).keep Kq240 (ninS z242 nin0)
      have f245 := (t235_3.ext E236).keep Kq240 (ninS z242 nin0)
      refine own_kQ (own_cif X hx hZ hB (W := 0) hown (W 33 rfl) (W 34 rfl) (W 35 rfl) (W 36 rfl) (W 37 rfl) (W 38 rfl) (W 39 rfl) (W 40 rfl) (W 41 rfl) (W 2 rfl) (by decide) (rm_6f l Z a0 hw [] dc kd cr cc mr hG b128 i10 (0 : Int32) _ n0 (own_zO O) O f241 f243 f244 f245 g_b128 hX10) (by decide) (by decide) eT f241 hml rfl pd_7 rfl rfl rfl at_158 (by decide) (by decide)) fun v T L246 hQ X => ?_
      obtain ⟨b_158, k_158, rfl, Nq246, Kq246, t246_0, t246_1, t246_2, t246_3, t246_4, t246_5, t246_6⟩ := hQ
      have g_b_158 := Nat.le_trans (own_zO O) t246_5
      have N := Fr.app N Nq246
      have O := O.keep Kq246 (allS g_b128 all0)
      refine o_pop X hx hB at_163 rfl ?_
      refine o_iload X hx hB at_164 rfl ?_
      refine o_ifYes X hx hB at_166 (Jvm.Free.XT.i0_eq_t (by decide : (0 : Int32) = 0)) 216 ?_
      refine o_iload X hx hB at_216 rfl ?_
      refine o_ifNo X hx hB at_218 (Jvm.Free.XT.i0_ne_f (by decide : (0 : Int32) = 0)) ?_
      refine o_iload X hx hB at_221 rfl ?_
      refine o_ifNo X hx hB at_223 (Jvm.Free.XT.i0_eq_f (by decide : ¬ ((1 : Int32) = 0))) ?_
      refine o_aload X hx hB at_226 rfl rfl ?_
      refine o_bipush X hx hB at_228 (20) ?_
      refine own_kP (own_cst X hx hZ hB (W := 1) hown (W 26 rfl) (W 27 rfl) (W 29 rfl) (W 28 rfl) (by decide) (rm_5 l Z a0 hw [] dc kd cr cc mr hG (20 : Int32) i20 _ n0 (own_zO O) O (by decide) (by decide) hin20 hs20) (by decide) (by decide) rfl hml rfl pd_21 rfl rfl rfl at_230 (by decide) (by decide)) rfl rfl fun T X eT => ?_
      have f247 := own_castI (j := (1 : Int32)) (by decide) t246_1
      have f248 := own_castI (j := (1 : Int32)) (by decide) t246_3
      have f249 := own_castA (us := (own_p 10 [.ref i10])) (by rfl) t246_4
      refine own_kQ (own_cif X hx hZ hB (W := 0) hown (W 33 rfl) (W 34 rfl) (W 35 rfl) (W 36 rfl) (W 37 rfl) (W 38 rfl) (W 39 rfl) (W 40 rfl) (W 41 rfl) (W 2 rfl) (by decide) (rm_6r l Z a0 hw [] dc kd cr cc mr hG b128 i20 (1 : Int32) b_158 k_158 (own_p 10 [.ref i10]) (1 : Int32) _ n0 (own_zO O) O t246_0 f247 t246_2 f248 f249 t246_6 g_b128 g_b_158 ⟨by decide, by decide⟩ (by decide) hX20) (by decide) (by decide) eT t246_0 hml rfl pd_7 rfl rfl rfl at_233 (by decide) (by decide)) fun v T L250 hQ X => ?_
      obtain ⟨rfl, Nq250, Kq250, t250_0, t250_1, t250_2, t250_3, t250_4, t250_5⟩ := hQ
      have N := Fr.app N Nq250
      have O := O.keep Kq250 (allS g_b128 (allS g_b_158 all0))
      refine o_pop X hx hB at_238 rfl ?_
      refine o_goto X hx hB at_239 255 ?_
      refine o_iload X hx hB at_255 rfl ?_
      refine o_ifNo X hx hB at_257 (Jvm.Free.XT.i0_eq_f (by decide : ¬ ((1 : Int32) = 0))) ?_
      refine o_iconst X hx hB at_260 (0) ?_
      refine o_goto X hx hB at_261 265 ?_
      refine o_iload X hx hB at_265 rfl ?_
      refine o_ifNo X hx hB at_267 (Jvm.Free.XT.i0_eq_f (by decide : ¬ ((1 : Int32) = 0))) ?_
      refine o_iconst X hx hB at_270 (0) ?_
      refine o_goto X hx hB at_271 275 ?_
      refine o_iadd X hx hB at_275 ?_
      refine o_istore X hx hB #[.val (.long pa), .second, .val (.long pb), .second, .val (.long ps), .second, .val (.int fl), .val (.int (0 : Int32)), .val (.int (0 : Int32)), .val (.ref b28), .val (.ref b68), .val (.int (1 : Int32)), .val (.int (1 : Int32)), .val (.ref b128), .val (.ref b137), .val (.int ((0 : Int32) + (0 : Int32))), .unset, .unset, .unset] at_276 rfl ?_
      refine o_new X hx hZ hB hown (W 68 rfl) (W 69 rfl) (W 70 rfl) rfl at_278 (by decide) (by decide) fun T h251 b278 g251 X eT E251 A251 D251 => ?_
      have g_b278 := own_gn O g251
      have O := O.ext E251
      refine o_dup X hx hB at_281 rfl ?_
      have f252 := D251 (Or.inr (W 87 rfl)) (ty := (.object "java/util/Deque")) (by decide)
      refine own_kQ (own_csp X hx hZ hB (W := 1) hown rfl (W 71 rfl) (W 72 rfl) (W 73 rfl) (W 70 rfl) (by decide) (rm_11 l Z a0 hw [] dc kd cr cc mr hG b278 _ n0 (own_zO O) O A251 f252 g_b278) (by decide) (by decide) eT hml rfl pd_0 rfl rfl rfl at_282 (by decide) (by decide)) fun v T L253 hQ X => ?_
      obtain ⟨d_282, ea_282, k_282, rfl, Nq253, Kq253, t253_0, t253_1, t253_2, t253_3, t253_4, t253_5, t253_6, t253_7, t253_8⟩ := hQ
      have g_d_282 := Nat.le_trans (own_zO O) t253_7
      have g_ea_282 := Nat.le_trans (own_zO O) t253_8
      have N := Fr.app N Nq253
      have O := O.keep Kq253 (allS g_b278 all0)
      refine o_astore X hx hB #[.val (.long pa), .second, .val (.long pb), .second, .val (.long ps), .second, .val (.int fl), .val (.int (0 : Int32)), .val (.int (0 : Int32)), .val (.ref b28), .val (.ref b68), .val (.int (1 : Int32)), .val (.int (1 : Int32)), .val (.ref b128), .val (.ref b137), .val (.int ((0 : Int32) + (0 : Int32))), .val (.ref b278), .unset, .unset] at_285 rfl rfl ?_
      refine o_aload X hx hB at_287 rfl rfl ?_
      refine o_lloadN X hx hB at_289 rfl ?_
      refine o_aload X hx hB at_290 rfl rfl ?_
      have f254 := own_castA (us := (own_p 17 [])) (by rfl) t253_6
      have f255 := ((own_castA (us := (own_p 17 [])) (by rfl) t253_6)).2.2.2
      have z256 := Exa.ne t253_2 f255 (by decide)
      refine own_kQ (own_cvi X hx hZ hB (W := 0) hown (W 88 rfl) (W 89 rfl) (W 91 rfl) (W 90 rfl) (W 92 rfl) (W 70 rfl) (by decide) (rm_13 l Z a0 hw [] dc kd cr cc mr hG b278 pa b28 d_282 ea_282 k_282 (own_p 17 []) (0 : Int32) (0 : Int32) _ n0 (own_zO O) O t253_0 t253_1 t253_2 t253_3 t253_4 t253_5 f254 z256 g_d_282 g_ea_282 ⟨by decide, by decide⟩ (by decide) (by decide)) (by decide) (by decide) rfl t253_0 hml rfl pd_6 rfl rfl rfl at_292 (by decide) (by decide)) fun v T L257 hQ X => ?_
      obtain ⟨x_292, rfl, Nq257, Kq257, t257_0, t257_1, t257_2, t257_3, t257_4, t257_5, t257_6, t257_7, t257_8, t257_9, t257_10, t257_11⟩ := hQ
      have g_x_292 := Nat.le_trans (own_zO O) t257_11
      have N := Fr.app N Nq257
      have O := O.keep Kq257 (allS g_d_282 (allS g_ea_282 all0))
      refine o_aload X hx hB at_295 rfl rfl ?_
      refine o_lloadN X hx hB at_297 rfl ?_
      refine o_aload X hx hB at_298 rfl rfl ?_
      have f258 := own_castI (j := (1 : Int32)) (by decide) t257_5
      have f259 := own_castA (us := (own_p 17 [.ref x_292])) (by rfl) t257_6
      refine own_kQ (own_cvi X hx hZ hB (W := 0) hown (W 88 rfl) (W 89 rfl) (W 91 rfl) (W 90 rfl) (W 92 rfl) (W 70 rfl) (by decide) (rm_13 l Z a0 hw [] dc kd cr cc mr hG b278 pb b68 d_282 ea_282 k_282 (own_p 17 [.ref x_292]) (0 : Int32) (1 : Int32) _ n0 (own_zO O) O t257_0 t257_1 t257_2 t257_3 t257_4 f258 f259 t257_7 g_d_282 g_ea_282 ⟨by decide, by decide⟩ (by decide) (by decide)) (by decide) (by decide) rfl t257_0 hml rfl pd_6 rfl rfl rfl at_300 (by decide) (by decide)) fun v T L260 hQ X => ?_
      obtain ⟨x_300, rfl, Nq260, Kq260, t260_0, t260_1, t260_2, t260_3, t260_4, t260_5, t260_6, t260_7, t260_8, t260_9, t260_10, t260_11⟩ := hQ
      have g_x_300 := Nat.le_trans (own_zO O) t260_11
      have N := Fr.app N Nq260
      have O := O.keep Kq260 (allS g_d_282 (allS g_ea_282 all0))
      refine o_aload X hx hB at_303 rfl rfl ?_
      have f261 := own_castI (j := (2 : Int32)) (by decide) t260_5
      have f262 := own_castA (us := (own_p 17 [.ref x_292, .ref x_300])) (by rfl) t260_6
      refine own_kP (own_cvi X hx hZ hB (W := 0) hown (W 131 rfl) (W 132 rfl) (W 134 rfl) (W 133 rfl) (W 135 rfl) (W 70 rfl) (by decide) (rm_19 l Z a0 hw [] dc kd cr cc mr hG b278 d_282 ea_282 k_282 (own_p 17 [.ref x_292, .ref x_300]) (0 : Int32) (2 : Int32) _ n0 (own_zO O) O t260_0 t260_1 t260_2 t260_3 t260_4 f261 f262 (by decide)) (by decide) (by decide) rfl t260_0 hml rfl pd_9 rfl rfl rfl at_305 (by decide) (by decide)) rfl rfl fun T X eT => ?_
      refine o_iconst X hx hB at_308 (2) ?_
      refine o_icmpYes X hx hB at_309 (Jvm.Free.XT.ii_eq_t (by decide : ((2 : Int32) - (0 : Int32)) = (2 : Int32))) 314 ?_
      refine o_aload X hx hB at_314 rfl rfl ?_
      refine o_lload X hx hB at_316 rfl ?_
      have f263 := t257_8.keep Kq260
      have z264 := own_ne2 f255.lt t257_11
      have z265 := own_ne2 t253_2.lt t257_11
      have f266 := t257_9.keep Kq260 (ninS (Ne.symm z265) (ninS (Ne.symm z264) nin0))
      have f267 := t257_10.keep Kq260 (ninS (Ne.symm z265) (ninS (Ne.symm z264) nin0))
      have f268 := ((((((((((((t6_0.ext E7).keep Kq11).keep Kq12).ext E231).keep Kq235).ext E236).keep Kq240).keep Kq246).keep Kq250).ext E251).keep Kq253).keep Kq257).keep Kq260
      have z269 := own_ne1 t6_0.lt g7
      have z270 := own_ne1 (((t6_0.ext E7).keep Kq11).keep Kq12).lt g231
      have z271 := own_ne1 (((((t6_0.ext E7).keep Kq11).keep Kq12).ext E231).keep Kq235).lt g236
      have z272 := own_ne2 (((((((t6_0.ext E7).keep Kq11).keep Kq12).ext E231).keep Kq235).ext E236).keep Kq240).lt t246_5
      have z273 := own_ne1 (((((((((t6_0.ext E7).keep Kq11).keep Kq12).ext E231).keep Kq235).ext E236).keep Kq240).keep Kq246).keep Kq250).lt g251
      have z274 := own_ne2 ((((((((((t6_0.ext E7).keep Kq11).keep Kq12).ext E231).keep Kq235).ext E236).keep Kq240).keep Kq246).keep Kq250).ext E251).lt t253_8
      have z275 := own_ne2 ((((((((((t6_0.ext E7).keep Kq11).keep Kq12).ext E231).keep Kq235).ext E236).keep Kq240).keep Kq246).keep Kq250).ext E251).lt t253_7
      have f276 := ((((((((((((t6_2.ext E7).keep Kq11 (ninS z269 nin0)).keep Kq12 (ninS z269 nin0)).ext E231).keep Kq235 (ninS z270 nin0)).ext E236).keep Kq240 (ninS z271 nin0)).keep Kq246 (ninS z270 nin0)).keep Kq250 (ninS z270 (ninS z272 nin0))).ext E251).keep Kq253 (ninS z273 nin0)).keep Kq257 (ninS z275 (ninS z274 nin0))).keep Kq260 (ninS z275 (ninS z274 nin0))
      have f277 := (((((((((((((own_castI (j := (1 : Int32)) (by decide) t6_3).ext E7).keep Kq11 (ninS z269 nin0)).keep Kq12 (ninS z269 nin0)).ext E231).keep Kq235 (ninS z270 nin0)).ext E236).keep Kq240 (ninS z271 nin0)).keep Kq246 (ninS z270 nin0)).keep Kq250 (ninS z270 (ninS z272 nin0))).ext E251).keep Kq253 (ninS z273 nin0)).keep Kq257 (ninS z275 (ninS z274 nin0))).keep Kq260 (ninS z275 (ninS z274 nin0))
      have z278 := own_ne1 ((own_castA (us := (own_p 10 [.ref i10])) (by rfl) t6_4)).2.2.2.lt g7
      have z279 := own_ne1 (((((own_castA (us := (own_p 10 [.ref i10])) (by rfl) t6_4)).2.2.2.ext E7).keep Kq11).keep Kq12).lt g231
      have z280 := own_ne1 (((((((own_castA (us := (own_p 10 [.ref i10])) (by rfl) t6_4)).2.2.2.ext E7).keep Kq11).keep Kq12).ext E231).keep Kq235).lt g236
      have z281 := own_ne2 (((((((((own_castA (us := (own_p 10 [.ref i10])) (by rfl) t6_4)).2.2.2.ext E7).keep Kq11).keep Kq12).ext E231).keep Kq235).ext E236).keep Kq240).lt t246_5
      have z282 := own_ne1 (((((((((((own_castA (us := (own_p 10 [.ref i10])) (by rfl) t6_4)).2.2.2.ext E7).keep Kq11).keep Kq12).ext E231).keep Kq235).ext E236).keep Kq240).keep Kq246).keep Kq250).lt g251
      have z283 := own_ne2 ((((((((((((own_castA (us := (own_p 10 [.ref i10])) (by rfl) t6_4)).2.2.2.ext E7).keep Kq11).keep Kq12).ext E231).keep Kq235).ext E236).keep Kq240).keep Kq246).keep Kq250).ext E251).lt t253_8
      have z284 := own_ne2 ((((((((((((own_castA (us := (own_p 10 [.ref i10])) (by rfl) t6_4)).2.2.2.ext E7).keep Kq11).keep Kq12).ext E231).keep Kq235).ext E236).keep Kq240).keep Kq246).keep Kq250).ext E251).lt t253_7
      have f285 := (((((((((((((own_castA (us := (own_p 10 [.ref i10])) (by rfl) t6_4).ext E7).keep Kq11 (ninS z278 nin0)).keep Kq12 (ninS z278 nin0)).ext E231).keep Kq235 (ninS z279 nin0)).ext E236).keep Kq240 (ninS z280 nin0)).keep Kq246 (ninS z279 nin0)).keep Kq250 (ninS z279 (ninS z281 nin0))).ext E251).keep Kq253 (ninS z282 nin0)).keep Kq257 (ninS z284 (ninS z283 nin0))).keep Kq260 (ninS z284 (ninS z283 nin0))
      have f286 := (((((((((t12_0.ext E231).keep Kq235).ext E236).keep Kq240).keep Kq246).keep Kq250).ext E251).keep Kq253).keep Kq257).keep Kq260
      have z287 := own_ne1 t12_0.lt g231
      have z288 := own_ne1 ((t12_0.ext E231).keep Kq235).lt g236
      have z289 := own_ne2 ((((t12_0.ext E231).keep Kq235).ext E236).keep Kq240).lt t246_5
      have z290 := own_ne1 ((((((t12_0.ext E231).keep Kq235).ext E236).keep Kq240).keep Kq246).keep Kq250).lt g251
      have z291 := own_ne2 (((((((t12_0.ext E231).keep Kq235).ext E236).keep Kq240).keep Kq246).keep Kq250).ext E251).lt t253_8
      have z292 := own_ne2 (((((((t12_0.ext E231).keep Kq235).ext E236).keep Kq240).keep Kq246).keep Kq250).ext E251).lt t253_7
      have f293 := (((((((((t12_2.ext E231).keep Kq235 (ninS z287 nin0)).ext E236).keep Kq240 (ninS z288 nin0)).keep Kq246 (ninS z287 nin0)).keep Kq250 (ninS z287 (ninS z289 nin0))).ext E251).keep Kq253 (ninS z290 nin0)).keep Kq257 (ninS z292 (ninS z291 nin0))).keep Kq260 (ninS z292 (ninS z291 nin0))
      have f294 := ((((((((((own_castI (j := (1 : Int32)) (by decide) t12_3).ext E231).keep Kq235 (ninS z287 nin0)).ext E236).keep Kq240 (ninS z288 nin0)).keep Kq246 (ninS z287 nin0)).keep Kq250 (ninS z287 (ninS z289 nin0))).ext E251).keep Kq253 (ninS z290 nin0)).keep Kq257 (ninS z292 (ninS z291 nin0))).keep Kq260 (ninS z292 (ninS z291 nin0))
      have z295 := own_ne1 ((own_castA (us := (own_p 10 [.ref i20])) (by rfl) t12_4)).2.2.2.lt g231
      have z296 := own_ne1 ((((own_castA (us := (own_p 10 [.ref i20])) (by rfl) t12_4)).2.2.2.ext E231).keep Kq235).lt g236
      have z297 := own_ne2 ((((((own_castA (us := (own_p 10 [.ref i20])) (by rfl) t12_4)).2.2.2.ext E231).keep Kq235).ext E236).keep Kq240).lt t246_5
      have z298 := own_ne1 ((((((((own_castA (us := (own_p 10 [.ref i20])) (by rfl) t12_4)).2.2.2.ext E231).keep Kq235).ext E236).keep Kq240).keep Kq246).keep Kq250).lt g251
      have z299 := own_ne2 (((((((((own_castA (us := (own_p 10 [.ref i20])) (by rfl) t12_4)).2.2.2.ext E231).keep Kq235).ext E236).keep Kq240).keep Kq246).keep Kq250).ext E251).lt t253_8
      have z300 := own_ne2 (((((((((own_castA (us := (own_p 10 [.ref i20])) (by rfl) t12_4)).2.2.2.ext E231).keep Kq235).ext E236).keep Kq240).keep Kq246).keep Kq250).ext E251).lt t253_7
      have f301 := ((((((((((own_castA (us := (own_p 10 [.ref i20])) (by rfl) t12_4).ext E231).keep Kq235 (ninS z295 nin0)).ext E236).keep Kq240 (ninS z296 nin0)).keep Kq246 (ninS z295 nin0)).keep Kq250 (ninS z295 (ninS z297 nin0))).ext E251).keep Kq253 (ninS z298 nin0)).keep Kq257 (ninS z300 (ninS z299 nin0))).keep Kq260 (ninS z300 (ninS z299 nin0))
      have z302 := own_ne2 t257_8.lt t260_11
      refine own_kQ (own_cvi X hx hZ hB (W := 0) hown (W 147 rfl) (W 148 rfl) (W 150 rfl) (W 149 rfl) (W 151 rfl) (W 70 rfl) (by decide) (rm_22_Cr l Z a0 hw [] dc kd cr cc mr hG b278 ps d_282 ea_282 k_282 (own_p 17 [.ref x_292, .ref x_300]) (0 : Int32) (2 : Int32) x_292 pa b28 b_44 (1 : Int32) k_44 (own_p 10 [.ref i10]) [Value.ref i10] x_300 pb b68 b_89 (1 : Int32) k_89 (own_p 10 [.ref i20]) [Value.ref i20] _ n0 (own_zO O) O t260_0 t260_1 t260_2 t260_3 t260_4 f261 f262 t260_7 f263 f266 f267 f268 f276 f277 f285 (Ne.symm z283) t260_8 t260_9 t260_10 f286 f293 f294 f301 (Ne.symm z299) z302 g_d_282 g_ea_282 (by decide) ⟨by decide, by decide⟩ (by rfl) hPa (by decide) (by decide) (by decide) (by decide) (by decide) (by rfl) ⟨rfl, (own_cI hX10 own_nI)⟩ (by decide) (by decide) (by decide) (by decide) ⟨by decide, by decide⟩ (by rfl) hPb (by decide) (by decide) (by decide) (by decide) (by decide) (by rfl) ⟨rfl, (own_cI hX20 own_nI)⟩ (by decide) (by decide) (by decide) (by decide) (by decide)) (by decide) (by decide) eT t260_0 hml rfl pd_20 rfl rfl rfl at_318 (by decide) (by decide)) fun v T L303 hQ X => ?_
      obtain ⟨b_318, eb_318, ke0_318, rfl, Nq303, Kq303, t303_0, t303_1, t303_2, t303_3, t303_4, t303_5, t303_6, t303_7, t303_8, t303_9, t303_10, t303_11, t303_12, t303_13⟩ := hQ
      have g_b_318 := Nat.le_trans (own_zO O) t303_4
      have g_eb_318 := Nat.le_trans (own_zO O) t303_7
      have N := Fr.app N Nq303
      have O := O.keep Kq303 (allS g_d_282 (allS g_ea_282 all0))
      refine o_astore X hx hB #[.val (.long pa), .second, .val (.long pb), .second, .val (.long ps), .second, .val (.int fl), .val (.int (0 : Int32)), .val (.int (0 : Int32)), .val (.ref b28), .val (.ref b68), .val (.int (1 : Int32)), .val (.int (1 : Int32)), .val (.ref b128), .val (.ref b137), .val (.int ((0 : Int32) + (0 : Int32))), .val (.ref b278), .val (.ref b_318), .unset] at_321 rfl rfl ?_
      refine o_aload X hx hB at_323 rfl rfl ?_
      refine o_aload X hx hB at_325 rfl rfl ?_
      have f304 := own_castI (j := (2 : Int32)) (by decide) t303_3
      have f305 := own_castA (us := (own_p 10 [.ref i10, .ref i20])) (by rfl) t303_5
      have f306 := ((((t250_0.ext E251).keep Kq253).keep Kq257).keep Kq260).keep Kq303
      have z307 := own_ne1 t250_0.lt g251
      have z308 := own_ne2 (t250_0.ext E251).lt t253_8
      have z309 := own_ne2 (t250_0.ext E251).lt t253_7
      have f310 := ((((t250_2.ext E251).keep Kq253 (ninS z307 nin0)).keep Kq257 (ninS z309 (ninS z308 nin0))).keep Kq260 (ninS z309 (ninS z308 nin0))).keep Kq303 (ninS z309 (ninS z308 nin0))
      have f311 := (((((own_castI (j := (2 : Int32)) (by decide) t250_3).ext E251).keep Kq253 (ninS z307 nin0)).keep Kq257 (ninS z309 (ninS z308 nin0))).keep Kq260 (ninS z309 (ninS z308 nin0))).keep Kq303 (ninS z309 (ninS z308 nin0))
      have z312 := own_ne1 (((own_castA (us := (own_p 10 [.ref i10])) (by rfl) t246_4)).2.2.2.keep Kq250).lt g251
      have z313 := own_ne2 ((((own_castA (us := (own_p 10 [.ref i10])) (by rfl) t246_4)).2.2.2.keep Kq250).ext E251).lt t253_8
      have z314 := own_ne2 ((((own_castA (us := (own_p 10 [.ref i10])) (by rfl) t246_4)).2.2.2.keep Kq250).ext E251).lt t253_7
      have f315 := (((((own_castA (us := (own_p 10 [.ref i10, .ref i20])) (by rfl) t250_4).ext E251).keep Kq253 (ninS z312 nin0)).keep Kq257 (ninS z314 (ninS z313 nin0))).keep Kq260 (ninS z314 (ninS z313 nin0))).keep Kq303 (ninS z314 (ninS z313 nin0))
      refine own_kP (own_cst X hx hZ hB (W := 0) hown (W 184 rfl) (W 185 rfl) (W 187 rfl) (W 186 rfl) (by decide) (rm_28_2 l Z a0 hw [] dc kd cr cc mr hG b_318 b128 eb_318 ke0_318 (own_p 10 [.ref i10, .ref i20]) b_158 k_158 (own_p 10 [.ref i10, .ref i20]) i10 vv10 i20 vv20 _ n0 (own_zO O) O t303_0 t303_2 f304 f305 f306 f310 f311 f315 (hX10.ext O.2) (hV10.ext O.2) (hX20.ext O.2) (hV20.ext O.2) (by rfl) (by rfl) (by rfl) (by rfl)) (by decide) (by decide) rfl hml rfl pd_22 rfl rfl rfl at_327 (by decide) (by decide)) rfl rfl fun T X eT => ?_
      refine o_ifYes X hx hB at_330 (Jvm.Free.XT.i0_ne_t (by decide : ¬ ((1 : Int32) = 0))) 335 ?_
      refine o_aload X hx hB at_335 rfl rfl ?_
      have f316 := t260_0.keep Kq303
      have z317 := own_ne2 A251.lt t253_8
      have z318 := own_ne2 A251.lt t253_7
      have f319 := t260_1.keep Kq303 (ninS z318 (ninS z317 nin0))
      have f320 := own_castI (j := (2 : Int32)) (by decide) t303_10
      have f321 := own_castA (us := (own_p 17 [.null, .null])) (by rfl) t303_12
      refine own_kP (own_cvi X hx hZ hB (W := 0) hown (W 131 rfl) (W 132 rfl) (W 134 rfl) (W 133 rfl) (W 135 rfl) (W 70 rfl) (by decide) (rm_19 l Z a0 hw [] dc kd cr cc mr hG b278 d_282 ea_282 k_282 (own_p 17 [.null, .null]) (2 : Int32) (2 : Int32) _ n0 (own_zO O) O f316 f319 t303_8 t303_9 f320 t303_11 f321 (by decide)) (by decide) (by decide) eT f316 hml rfl pd_9 rfl rfl rfl at_337 (by decide) (by decide)) rfl rfl fun T X eT => ?_
      refine o_iload X hx hB at_340 rfl ?_
      refine o_icmpYes X hx hB at_342 (Jvm.Free.XT.ii_eq_t (by decide : ((2 : Int32) - (2 : Int32)) = ((0 : Int32) + (0 : Int32)))) 347 ?_
      refine o_aload X hx hB at_347 rfl rfl ?_
      refine own_kQ (own_cvi X hx hZ hB (W := 0) hown (W 196 rfl) (W 197 rfl) (W 199 rfl) (W 198 rfl) (W 200 rfl) (W 70 rfl) (by decide) (rm_30_0 l Z a0 hw [] dc kd cr cc mr hG b278 d_282 ea_282 k_282 (own_p 17 [.null, .null]) (2 : Int32) (2 : Int32) _ n0 (own_zO O) O f316 f319 t303_8 t303_9 f320 t303_11 f321 t303_13 (by decide)) (by decide) (by decide) eT f316 hml rfl pd_18 rfl rfl rfl at_349 (by decide) (by decide)) fun v T L322 hQ X => ?_
      obtain ⟨b_349, rfl, Nq322, Kq322, t322_0, t322_1, t322_2, t322_3, t322_4⟩ := hQ
      have g_b_349 := Nat.le_trans (own_zO O) t322_4
      have N := Fr.app N Nq322
      have O := O.keep Kq322 all0
      refine o_astore X hx hB #[.val (.long pa), .second, .val (.long pb), .second, .val (.long ps), .second, .val (.int fl), .val (.int (0 : Int32)), .val (.int (0 : Int32)), .val (.ref b28), .val (.ref b68), .val (.int (1 : Int32)), .val (.int (1 : Int32)), .val (.ref b128), .val (.ref b137), .val (.int ((0 : Int32) + (0 : Int32))), .val (.ref b278), .val (.ref b_318), .val (.ref b_349)] at_352 rfl rfl ?_
      refine o_aload X hx hB at_354 rfl rfl ?_
      refine o_aload X hx hB at_356 rfl rfl ?_
      have f323 := (((((((t240_0.keep Kq246).keep Kq250).ext E251).keep Kq253).keep Kq257).keep Kq260).keep Kq303).keep Kq322
      have z324 := own_ne2 t240_0.lt t246_5
      have z325 := own_ne1 ((t240_0.keep Kq246).keep Kq250).lt g251
      have z326 := own_ne2 (((t240_0.keep Kq246).keep Kq250).ext E251).lt t253_8
      have z327 := own_ne2 (((t240_0.keep Kq246).keep Kq250).ext E251).lt t253_7
      have f328 := (((((((t240_2.keep Kq246 (ninS (Ne.symm z242) nin0)).keep Kq250 (ninS (Ne.symm z242) (ninS z324 nin0))).ext E251).keep Kq253 (ninS z325 nin0)).keep Kq257 (ninS z327 (ninS z326 nin0))).keep Kq260 (ninS z327 (ninS z326 nin0))).keep Kq303 (ninS z327 (ninS z326 nin0))).keep Kq322 nin0
      have f329 := (((((((t240_3.keep Kq246 (ninS (Ne.symm z242) nin0)).keep Kq250 (ninS (Ne.symm z242) (ninS z324 nin0))).ext E251).keep Kq253 (ninS z325 nin0)).keep Kq257 (ninS z327 (ninS z326 nin0))).keep Kq260 (ninS z327 (ninS z326 nin0))).keep Kq303 (ninS z327 (ninS z326 nin0))).keep Kq322 nin0
      refine own_kP (own_cst X hx hZ hB (W := 0) hown (W 184 rfl) (W 185 rfl) (W 187 rfl) (W 186 rfl) (by decide) (rm_28_0 l Z a0 hw [] dc kd cr cc mr hG b_349 b137 dc kd [] dc kd [] _ n0 (own_zO O) O t322_0 t322_2 t322_3 f323 f328 f329) (by decide) (by decide) rfl hml rfl pd_22 rfl rfl rfl at_358 (by decide) (by decide)) rfl rfl fun T X eT => ?_
      refine o_ifYes X hx hB at_361 (Jvm.Free.XT.i0_ne_t (by decide : ¬ ((1 : Int32) = 0))) 366 ?_
      refine o_aload X hx hB at_366 rfl rfl ?_
      have f330 := f316.keep Kq322
      have f331 := f319.keep Kq322 nin0
      have f332 := t303_8.keep Kq322
      have f333 := t303_9.keep Kq322 nin0
      have f334 := f320.keep Kq322 nin0
      have f335 := t303_11.keep Kq322 nin0
      have f336 := f321.keep Kq322 nin0
      refine own_kP (own_cvi X hx hZ hB (W := 0) hown (W 131 rfl) (W 132 rfl) (W 134 rfl) (W 133 rfl) (W 135 rfl) (W 70 rfl) (by decide) (rm_19 l Z a0 hw [] dc kd cr cc mr hG b278 d_282 ea_282 k_282 (own_p 17 [.null, .null]) (2 : Int32) (2 : Int32) _ n0 (own_zO O) O f330 f331 f332 f333 f334 f335 f336 (by decide)) (by decide) (by decide) eT f330 hml rfl pd_9 rfl rfl rfl at_368 (by decide) (by decide)) rfl rfl fun T X eT => ?_
      refine o_ifNo X hx hB at_371 (Jvm.Free.XT.i0_ne_f (by decide : ((2 : Int32) - (2 : Int32)) = 0)) ?_
      refine o_iconst X hx hB at_374 (1) ?_
      refine o_goto X hx hB at_375 379 ?_
      exact own_retN X hx (t := .boolean) Bd.returns (by simp) (hb hB at_379) (BodyLoose.notSynchronized Bd) (w := (1 : Int32)) rfl ⟨rfl, N⟩ (by decide) (by decide)
theorem ef_0_01 (m : MethodId) (pa : Int64) (pb : Int64) (ps : Int64) (fl : Int32) : entryFrame m #[(.long pa), (.long pb), (.long ps), (.int fl)] maxLocals = mkF m 0 #[.val (.long pa), .second, .val (.long pb), .second, .val (.long ps), .second, .val (.int fl), .unset, .unset, .unset, .unset, .unset, .unset, .unset, .unset, .unset, .unset, .unset, .unset] [] := by first | (simp [entryFrame, mkF, argsToLocals, Value.category, maxLocals]; done) | rfl
set_option maxRecDepth 65536 in
set_option maxHeartbeats 40000000 in
theorem rm_0_01 (l : Launch) (Z : State) (a0 : Array Value) (hw : own_Hw a0 Z) (ws : List Jvm.Cond) (dc : Addr) (kd : ClassId) (cr : Addr) (cc : Cell) (mr : Addr) (hG : own_G Z dc kd cr cc mr) (pa pb ps : Int64) (fl : Int32) (i10 i11 i20 : Addr) (vv10 vv11 vv20 : Int32) (h0 : Heap) (n0 : Nat) (Z0 : n0 ≤ h0.size) (hO : Old Z n0 h0) (hin10 : ¬ (((10 : Int32) + (128 : Int32)) < 0 ∨ cc.slots.size ≤ ((10 : Int32) + (128 : Int32)).toNatClampNeg)) (hs10 : cc.slots[((10 : Int32) + (128 : Int32)).toNatClampNeg]? = some (.ref i10)) (hX10 : Exa Z Z.heap i10 "java/lang/Integer") (hV10 : Fld Z Z.heap i10 "java/lang/Integer" "value" "I" (.int vv10)) (hin11 : ¬ (((11 : Int32) + (128 : Int32)) < 0 ∨ cc.slots.size ≤ ((11 : Int32) + (128 : Int32)).toNatClampNeg)) (hs11 : cc.slots[((11 : Int32) + (128 : Int32)).toNatClampNeg]? = some (.ref i11)) (hX11 : Exa Z Z.heap i11 "java/lang/Integer") (hV11 : Fld Z Z.heap i11 "java/lang/Integer" "value" "I" (.int vv11)) (hin20 : ¬ (((20 : Int32) + (128 : Int32)) < 0 ∨ cc.slots.size ≤ ((20 : Int32) + (128 : Int32)).toNatClampNeg)) (hs20 : cc.slots[((20 : Int32) + (128 : Int32)).toNatClampNeg]? = some (.ref i20)) (hX20 : Exa Z Z.heap i20 "java/lang/Integer") (hV20 : Fld Z Z.heap i20 "java/lang/Integer" "value" "I" (.int vv20)) (hT : (fl &&& (1 : Int32)) = 0) (hS : ¬ ((fl &&& (2 : Int32)) = 0)) :
    own_Met l x (Jvm.Cond.code x code maxLocals ret) ws room_1 #[(.long pa), (.long pb), (.long ps), (.int fl)] Z h0 (own_Ql (some (.int (1 : Int32))) n0) 48 320 := by
  refine MetFree.of_bodySF (plainFor_of_name pn_0) hisR ?_
  intro p e s m args below meth c T Bd hml0 hP hK
  obtain ⟨rfl, hZ, hh⟩ := hP
  obtain ⟨hx, hB⟩ := And.intro Bd.exec Bd.bytes
  have hml : c.maxLocals = 19 := hml0
  have hown : s.vm.findClass "com/example/sandpiper/sandpiper/broker/AwaitingSyncAddPinLaw" = some m.cls := findClass_of_methodNamed Bd.named
  have hnm := (name_of_methodNamed Bd.named Bd.method).1
  have X : Stand p l e room_1 s m #[(.long pa), (.long pb), (.long ps), (.int fl)] below meth c T [] 0 0 := Stand.of_body Bd
  have eT : T.heap = h0 := by rw [← hh, Bd.state]; rfl
  have W := @own_Wd a0 Z hw
  have N := Fr.nil n0
  have O := hO
  refine own_enter (ef_0_01 m pa pb ps fl) ?_
  show own_Goes _ _ _ _ (own_P s (own_Ql (some (.int (1 : Int32))) n0) 48 320)
  refine o_iload X hx hB at_0 rfl ?_
  refine o_iconst X hx hB at_2 (1) ?_
  refine o_iand X hx hB at_3 ?_
  refine o_ifYes X hx hB at_4 (Jvm.Free.XT.i0_eq_t hT) 11 ?_
  refine o_iconst X hx hB at_11 (0) ?_
  refine o_istore X hx hB #[.val (.long pa), .second, .val (.long pb), .second, .val (.long ps), .second, .val (.int fl), .val (.int (0 : Int32)), .unset, .unset, .unset, .unset, .unset, .unset, .unset, .unset, .unset, .unset, .unset] at_12 rfl ?_
  refine o_iload X hx hB at_14 rfl ?_
  refine o_iconst X hx hB at_16 (2) ?_
  refine o_iand X hx hB at_17 ?_
  refine o_ifNo X hx hB at_18 (Jvm.Free.XT.i0_eq_f hS) ?_
  refine o_iconst X hx hB at_21 (1) ?_
  refine o_goto X hx hB at_22 26 ?_
  refine o_istore X hx hB #[.val (.long pa), .second, .val (.long pb), .second, .val (.long ps), .second, .val (.int fl), .val (.int (0 : Int32)), .val (.int (1 : Int32)), .unset, .unset, .unset, .unset, .unset, .unset, .unset, .unset, .unset, .unset] at_26 rfl ?_
  refine o_new X hx hZ hB hown (W 0 rfl) (W 1 rfl) (W 2 rfl) eT at_28 (by decide) (by decide) fun T h1 b28 g1 X eT E1 A1 D1 => ?_
  have g_b28 := own_gn O g1
  have O := O.ext E1
  refine o_dup X hx hB at_31 rfl ?_
  have f2 := D1 (Or.inl (W 22 rfl)) (ty := .int) (by decide)
  have f3 := D1 (Or.inl (W 25 rfl)) (ty := (.array (.object "java/lang/Object"))) (by decide)
  have f4 := D1 (Or.inl (W 45 rfl)) (ty := .int) (by decide)
  refine own_kQ (own_csp X hx hZ hB (W := 1) hown rfl (W 3 rfl) (W 4 rfl) (W 5 rfl) (W 2 rfl) (by decide) (rm_1 l Z a0 hw [] dc kd cr cc mr hG b28 (0 : Int32) (0 : Int32) _ n0 (own_zO O) O A1 f2 f3 f4 g_b28) (by decide) (by decide) eT hml rfl pd_0 rfl rfl rfl at_32 (by decide) (by decide)) fun v T L5 hQ X => ?_
  obtain ⟨rfl, Nq5, Kq5, t5_0, t5_1, t5_2, t5_3⟩ := hQ
  have N := Fr.app N Nq5
  have O := O.keep Kq5 (allS g_b28 all0)
  refine o_astore X hx hB #[.val (.long pa), .second, .val (.long pb), .second, .val (.long ps), .second, .val (.int fl), .val (.int (0 : Int32)), .val (.int (1 : Int32)), .val (.ref b28), .unset, .unset, .unset, .unset, .unset, .unset, .unset, .unset, .unset] at_35 rfl rfl ?_
  refine o_aload X hx hB at_37 rfl rfl ?_
  refine o_bipush X hx hB at_39 (10) ?_
  refine own_kP (own_cst X hx hZ hB (W := 1) hown (W 26 rfl) (W 27 rfl) (W 29 rfl) (W 28 rfl) (by decide) (rm_5 l Z a0 hw [] dc kd cr cc mr hG (10 : Int32) i10 _ n0 (own_zO O) O (by decide) (by decide) hin10 hs10) (by decide) (by decide) rfl hml rfl pd_21 rfl rfl rfl at_41 (by decide) (by decide)) rfl rfl fun T X eT => ?_
  refine own_kQ (own_cif X hx hZ hB (W := 0) hown (W 33 rfl) (W 34 rfl) (W 35 rfl) (W 36 rfl) (W 37 rfl) (W 38 rfl) (W 39 rfl) (W 40 rfl) (W 41 rfl) (W 2 rfl) (by decide) (rm_6f l Z a0 hw [] dc kd cr cc mr hG b28 i10 (0 : Int32) _ n0 (own_zO O) O t5_0 t5_1 t5_2 t5_3 g_b28 hX10) (by decide) (by decide) eT t5_0 hml rfl pd_7 rfl rfl rfl at_44 (by decide) (by decide)) fun v T L6 hQ X => ?_
  obtain ⟨b_44, k_44, rfl, Nq6, Kq6, t6_0, t6_1, t6_2, t6_3, t6_4, t6_5, t6_6⟩ := hQ
  have g_b_44 := Nat.le_trans (own_zO O) t6_5
  have N := Fr.app N Nq6
  have O := O.keep Kq6 (allS g_b28 all0)
  refine o_pop X hx hB at_49 rfl ?_
  refine o_iload X hx hB at_50 rfl ?_
  refine o_ifYes X hx hB at_52 (Jvm.Free.XT.i0_eq_t (by decide : (0 : Int32) = 0)) 68 ?_
  refine o_new X hx hZ hB hown (W 0 rfl) (W 1 rfl) (W 2 rfl) rfl at_68 (by decide) (by decide) fun T h7 b68 g7 X eT E7 A7 D7 => ?_
  have g_b68 := own_gn O g7
  have O := O.ext E7
  refine o_dup X hx hB at_71 rfl ?_
  have f8 := D7 (Or.inl (W 22 rfl)) (ty := .int) (by decide)
  have f9 := D7 (Or.inl (W 25 rfl)) (ty := (.array (.object "java/lang/Object"))) (by decide)
  have f10 := D7 (Or.inl (W 45 rfl)) (ty := .int) (by decide)
  refine own_kQ (own_csp X hx hZ hB (W := 1) hown rfl (W 3 rfl) (W 4 rfl) (W 5 rfl) (W 2 rfl) (by decide) (rm_1 l Z a0 hw [] dc kd cr cc mr hG b68 (0 : Int32) (0 : Int32) _ n0 (own_zO O) O A7 f8 f9 f10 g_b68) (by decide) (by decide) eT hml rfl pd_0 rfl rfl rfl at_72 (by decide) (by decide)) fun v T L11 hQ X => ?_
  obtain ⟨rfl, Nq11, Kq11, t11_0, t11_1, t11_2, t11_3⟩ := hQ
  have N := Fr.app N Nq11
  have O := O.keep Kq11 (allS g_b68 all0)
  refine o_astore X hx hB #[.val (.long pa), .second, .val (.long pb), .second, .val (.long ps), .second, .val (.int fl), .val (.int (0 : Int32)), .val (.int (1 : Int32)), .val (.ref b28), .val (.ref b68), .unset, .unset, .unset, .unset, .unset, .unset, .unset, .unset] at_75 rfl rfl ?_
  refine o_iload X hx hB at_77 rfl ?_
  refine o_ifYes X hx hB at_79 (Jvm.Free.XT.i0_ne_t (by decide : ¬ ((1 : Int32) = 0))) 95 ?_
  refine o_lloadN X hx hB at_95 rfl ?_
  refine o_lload X hx hB at_96 rfl ?_
  refine o_lcmp X hx hB at_98 ?_
  by_cases hPa : ps < pa
  · refine o_ifYes X hx hB at_99 (Jvm.Free.XT.ll_gt_t hPa) 106 ?_
    refine o_iconst X hx hB at_106 (0) ?_
    refine o_istore X hx hB #[.val (.long pa), .second, .val (.long pb), .second, .val (.long ps), .second, .val (.int fl), .val (.int (0 : Int32)), .val (.int (1 : Int32)), .val (.ref b28), .val (.ref b68), .val (.int (0 : Int32)), .unset, .unset, .unset, .unset, .unset, .unset, .unset] at_107 rfl ?_
    refine o_iload X hx hB at_109 rfl ?_
    refine o_ifYes X hx hB at_111 (Jvm.Free.XT.i0_eq_t (by decide : (0 : Int32) = 0)) 125 ?_
    refine o_iconst X hx hB at_125 (0) ?_
    refine o_istore X hx hB #[.val (.long pa), .second, .val (.long pb), .second, .val (.long ps), .second, .val (.int fl), .val (.int (0 : Int32)), .val (.int (1 : Int32)), .val (.ref b28), .val (.ref b68), .val (.int (0 : Int32)), .val (.int (0 : Int32)), .unset, .unset, .unset, .unset, .unset, .unset] at_126 rfl ?_
    refine o_new X hx hZ hB hown (W 0 rfl) (W 1 rfl) (W 2 rfl) rfl at_128 (by decide) (by decide) fun T h12 b128 g12 X eT E12 A12 D12 => ?_
    have g_b128 := own_gn O g12
    have O := O.ext E12
    refine o_dup X hx hB at_131 rfl ?_
    have f13 := D12 (Or.inl (W 22 rfl)) (ty := .int) (by decide)
    have f14 := D12 (Or.inl (W 25 rfl)) (ty := (.array (.object "java/lang/Object"))) (by decide)
    have f15 := D12 (Or.inl (W 45 rfl)) (ty := .int) (by decide)
    refine own_kQ (own_csp X hx hZ hB (W := 1) hown rfl (W 3 rfl) (W 4 rfl) (W 5 rfl) (W 2 rfl) (by decide) (rm_1 l Z a0 hw [] dc kd cr cc mr hG b128 (0 : Int32) (0 : Int32) _ n0 (own_zO O) O A12 f13 f14 f15 g_b128) (by decide) (by decide) eT hml rfl pd_0 rfl rfl rfl at_132 (by decide) (by decide)) fun v T L16 hQ X => ?_
    obtain ⟨rfl, Nq16, Kq16, t16_0, t16_1, t16_2, t16_3⟩ := hQ
    have N := Fr.app N Nq16
    have O := O.keep Kq16 (allS g_b128 all0)
    refine o_astore X hx hB #[.val (.long pa), .second, .val (.long pb), .second, .val (.long ps), .second, .val (.int fl), .val (.int (0 : Int32)), .val (.int (1 : Int32)), .val (.ref b28), .val (.ref b68), .val (.int (0 : Int32)), .val (.int (0 : Int32)), .val (.ref b128), .unset, .unset, .unset, .unset, .unset] at_135 rfl rfl ?_
    refine o_new X hx hZ hB hown (W 0 rfl) (W 1 rfl) (W 2 rfl) rfl at_137 (by decide) (by decide) fun T h17 b137 g17 X eT E17 A17 D17 => ?_
    have g_b137 := own_gn O g17
    have O := O.ext E17
    refine o_dup X hx hB at_140 rfl ?_
    have f18 := D17 (Or.inl (W 22 rfl)) (ty := .int) (by decide)
    have f19 := D17 (Or.inl (W 25 rfl)) (ty := (.array (.object "java/lang/Object"))) (by decide)
    have f20 := D17 (Or.inl (W 45 rfl)) (ty := .int) (by decide)
    refine own_kQ (own_csp X hx hZ hB (W := 1) hown rfl (W 3 rfl) (W 4 rfl) (W 5 rfl) (W 2 rfl) (by decide) (rm_1 l Z a0 hw [] dc kd cr cc mr hG b137 (0 : Int32) (0 : Int32) _ n0 (own_zO O) O A17 f18 f19 f20 g_b137) (by decide) (by decide) eT hml rfl pd_0 rfl rfl rfl at_141 (by decide) (by decide)) fun v T L21 hQ X => ?_
    obtain ⟨rfl, Nq21, Kq21, t21_0, t21_1, t21_2, t21_3⟩ := hQ
    have N := Fr.app N Nq21
    have O := O.keep Kq21 (allS g_b137 all0)
    refine o_astore X hx hB #[.val (.long pa), .second, .val (.long pb), .second, .val (.long ps), .second, .val (.int fl), .val (.int (0 : Int32)), .val (.int (1 : Int32)), .val (.ref b28), .val (.ref b68), .val (.int (0 : Int32)), .val (.int (0 : Int32)), .val (.ref b128), .val (.ref b137), .unset, .unset, .unset, .unset] at_144 rfl rfl ?_
    refine o_iload X hx hB at_146 rfl ?_
    refine o_ifYes X hx hB at_148 (Jvm.Free.XT.i0_eq_t (by decide : (0 : Int32) = 0)) 185 ?_
    refine o_aload X hx hB at_185 rfl rfl ?_
    refine o_bipush X hx hB at_187 (10) ?_
    refine own_kP (own_cst X hx hZ hB (W := 1) hown (W 26 rfl) (W 27 rfl) (W 29 rfl) (W 28 rfl) (by decide) (rm_5 l Z a0 hw [] dc kd cr cc mr hG (10 : Int32) i10 _ n0 (own_zO O) O (by decide) (by decide) hin10 hs10) (by decide) (by decide) rfl hml rfl pd_21 rfl rfl rfl at_189 (by decide) (by decide)) rfl rfl fun T X eT => ?_
    refine own_kQ (own_cif X hx hZ hB (W := 0) hown (W 33 rfl) (W 34 rfl) (W 35 rfl) (W 36 rfl) (W 37 rfl) (W 38 rfl) (W 39 rfl) (W 40 rfl) (W 41 rfl) (W 2 rfl) (by decide) (rm_6f l Z a0 hw [] dc kd cr cc mr hG b137 i10 (0 : Int32) _ n0 (own_zO O) O t21_0 t21_1 t21_2 t21_3 g_b137 hX10) (by decide) (by decide) eT t21_0 hml rfl pd_7 rfl rfl rfl at_192 (by decide) (by decide)) fun v T L22 hQ X => ?_
    obtain ⟨b_192, k_192, rfl, Nq22, Kq22, t22_0, t22_1, t22_2, t22_3, t22_4, t22_5, t22_6⟩ := hQ
    have g_b_192 := Nat.le_trans (own_zO O) t22_5
    have N := Fr.app N Nq22
    have O := O.keep Kq22 (allS g_b137 all0)
    refine o_pop X hx hB at_197 rfl ?_
    refine o_iload X hx hB at_198 rfl ?_
    refine o_ifYes X hx hB at_200 (Jvm.Free.XT.i0_eq_t (by decide : (0 : Int32) = 0)) 216 ?_
    refine o_iload X hx hB at_216 rfl ?_
    refine o_ifYes X hx hB at_218 (Jvm.Free.XT.i0_ne_t (by decide : ¬ ((1 : Int32) = 0))) 255 ?_
    refine o_iload X hx hB at_255 rfl ?_
    refine o_ifYes X hx hB at_257 (Jvm.Free.XT.i0_eq_t (by decide : (0 : Int32) = 0)) 264 ?_
    refine o_iconst X hx hB at_264 (1) ?_
    refine o_iload X hx hB at_265 rfl ?_
    refine o_ifYes X hx hB at_267 (Jvm.Free.XT.i0_eq_t (by decide : (0 : Int32) = 0)) 274 ?_
    refine o_iconst X hx hB at_274 (1) ?_
    refine o_iadd X hx hB at_275 ?_
    refine o_istore X hx hB #[.val (.long pa), .second, .val (.long pb), .second, .val (.long ps), .second, .val (.int fl), .val (.int (0 : Int32)), .val (.int (1 : Int32)), .val (.ref b28), .val (.ref b68), .val (.int (0 : Int32)), .val (.int (0 : Int32)), .val (.ref b128), .val (.ref b137), .val (.int ((1 : Int32) + (1 : Int32))), .unset, .unset, .unset] at_276 rfl ?_
    refine o_new X hx hZ hB hown (W 68 rfl) (W 69 rfl) (W 70 rfl) rfl at_278 (by decide) (by decide) fun T h23 b278 g23 X eT E23 A23 D23 => ?_
    have g_b278 := own_gn O g23
    have O := O.ext E23
    refine o_dup X hx hB at_281 rfl ?_
    have f24 := D23 (Or.inr (W 87 rfl)) (ty := (.object "java/util/Deque")) (by decide)
    refine own_kQ (own_csp X hx hZ hB (W := 1) hown rfl (W 71 rfl) (W 72 rfl) (W 73 rfl) (W 70 rfl) (by decide) (rm_11 l Z a0 hw [] dc kd cr cc mr hG b278 _ n0 (own_zO O) O A23 f24 g_b278) (by decide) (by decide) eT hml rfl pd_0 rfl rfl rfl at_282 (by decide) (by decide)) fun v T L25 hQ X => ?_
    obtain ⟨d_282, ea_282, k_282, rfl, Nq25, Kq25, t25_0, t25_1, t25_2, t25_3, t25_4, t25_5, t25_6, t25_7, t25_8⟩ := hQ
    have g_d_282 := Nat.le_trans (own_zO O) t25_7
    have g_ea_282 := Nat.le_trans (own_zO O) t25_8
    have N := Fr.app N Nq25
    have O := O.keep Kq25 (allS g_b278 all0)
    refine o_astore X hx hB #[.val (.long pa), .second, .val (.long pb), .second, .val (.long ps), .second, .val (.int fl), .val (.int (0 : Int32)), .val (.int (1 : Int32)), .val (.ref b28), .val (.ref b68), .val (.int (0 : Int32)), .val (.int (0 : Int32)), .val (.ref b128), .val (.ref b137), .val (.int ((1 : Int32) + (1 : Int32))), .val (.ref b278), .unset, .unset] at_285 rfl rfl ?_
    refine o_aload X hx hB at_287 rfl rfl ?_
    refine o_lloadN X hx hB at_289 rfl ?_
    refine o_aload X hx hB at_290 rfl rfl ?_
    have f26 := own_castA (us := (own_p 17 [])) (by rfl) t25_6
    have f27 := ((own_castA (us := (own_p 17 [])) (by rfl) t25_6)).2.2.2
    have z28 := Exa.ne t25_2 f27 (by decide)
    refine own_kQ (own_cvi X hx hZ hB (W := 0) hown (W 88 rfl) (W 89 rfl) (W 91 rfl) (W 90 rfl) (W 92 rfl) (W 70 rfl) (by decide) (rm_13 l Z a0 hw [] dc kd cr cc mr hG b278 pa b28 d_282 ea_282 k_282 (own_p 17 []) (0 : Int32) (0 : Int32) _ n0 (own_zO O) O t25_0 t25_1 t25_2 t25_3 t25_4 t25_5 f26 z28 g_d_282 g_ea_282 ⟨by decide, by decide⟩ (by decide) (by decide)) (by decide) (by decide) rfl t25_0 hml rfl pd_6 rfl rfl rfl at_292 (by decide) (by decide)) fun v T L29 hQ X => ?_
    obtain ⟨x_292, rfl, Nq29, Kq29, t29_0, t29_1, t29_2, t29_3, t29_4, t29_5, t29_6, t29_7, t29_8, t29_9, t29_10, t29_11⟩ := hQ
    have g_x_292 := Nat.le_trans (own_zO O) t29_11
    have N := Fr.app N Nq29
    have O := O.keep Kq29 (allS g_d_282 (allS g_ea_282 all0))
    refine o_aload X hx hB at_295 rfl rfl ?_
    refine o_lloadN X hx hB at_297 rfl ?_
    refine o_aload X hx hB at_298 rfl rfl ?_
    have f30 := own_castI (j := (1 : Int32)) (by decide) t29_5
    have f31 := own_castA (us := (own_p 17 [.ref x_292])) (by rfl) t29_6
    refine own_kQ (own_cvi X hx hZ hB (W := 0) hown (W 88 rfl) (W 89 rfl) (W 91 rfl) (W 90 rfl) (W 92 rfl) (W 70 rfl) (by decide) (rm_13 l Z a0 hw [] dc kd cr cc mr hG b278 pb b68 d_282 ea_282 k_282 (own_p 17 [.ref x_292]) (0 : Int32) (1 : Int32) _ n0 (own_zO O) O t29_0 t29_1 t29_2 t29_3 t29_4 f30 f31 t29_7 g_d_282 g_ea_282 ⟨by decide, by decide⟩ (by decide) (by decide)) (by decide) (by decide) rfl t29_0 hml rfl pd_6 rfl rfl rfl at_300 (by decide) (by decide)) fun v T L32 hQ X => ?_
    obtain ⟨x_300, rfl, Nq32, Kq32, t32_0, t32_1, t32_2, t32_3, t32_4, t32_5, t32_6, t32_7, t32_8, t32_9, t32_10, t32_11⟩ := hQ
    have g_x_300 := Nat.le_trans (own_zO O) t32_11
    have N := Fr.app N Nq32
    have O := O.keep Kq32 (allS g_d_282 (allS g_ea_282 all0))
    refine o_aload X hx hB at_303 rfl rfl ?_
    have f33 := own_castI (j := (2 : Int32)) (by decide) t32_5
    have f34 := own_castA (us := (own_p 17 [.ref x_292, .ref x_300])) (by rfl) t32_6
    refine own_kP (own_cvi X hx hZ hB (W := 0) hown (W 131 rfl) (W 132 rfl) (W 134 rfl) (W 133 rfl) (W 135 rfl) (W 70 rfl) (by decide) (rm_19 l Z a0 hw [] dc kd cr cc mr hG b278 d_282 ea_282 k_282 (own_p 17 [.ref x_292, .ref x_300]) (0 : Int32) (2 : Int32) _ n0 (own_zO O) O t32_0 t32_1 t32_2 t32_3 t32_4 f33 f34 (by decide)) (by decide) (by decide) rfl t32_0 hml rfl pd_9 rfl rfl rfl at_305 (by decide) (by decide)) rfl rfl fun T X eT => ?_
    refine o_iconst X hx hB at_308 (2) ?_
    refine o_icmpYes X hx hB at_309 (Jvm.Free.XT.ii_eq_t (by decide : ((2 : Int32) - (0 : Int32)) = (2 : Int32))) 314 ?_
    refine o_aload X hx hB at_314 rfl rfl ?_
    refine o_lload X hx hB at_316 rfl ?_
    have f35 := t29_8.keep Kq32
    have z36 := own_ne2 f27.lt t29_11
    have z37 := own_ne2 t25_2.lt t29_11
    have f38 := t29_9.keep Kq32 (ninS (Ne.symm z37) (ninS (Ne.symm z36) nin0))
    have f39 := t29_10.keep Kq32 (ninS (Ne.symm z37) (ninS (Ne.symm z36) nin0))
    refine own_kQ (own_cvi X hx hZ hB (W := 0) hown (W 147 rfl) (W 148 rfl) (W 150 rfl) (W 149 rfl) (W 151 rfl) (W 70 rfl) (by decide) (rm_22_A l Z a0 hw [] dc kd cr cc mr hG b278 ps d_282 ea_282 k_282 (own_p 17 [.ref x_292, .ref x_300]) (0 : Int32) (2 : Int32) x_292 pa b28 _ n0 (own_zO O) O t32_0 t32_1 t32_2 t32_3 t32_4 f33 f34 t32_7 f35 f38 f39 (by decide) ⟨by decide, by decide⟩ (by rfl) hPa) (by decide) (by decide) eT t32_0 hml rfl pd_20 rfl rfl rfl at_318 (by decide) (by decide)) fun v T L40 hQ X => ?_
    obtain ⟨b_318, rfl, Nq40, Kq40, t40_0, t40_1, t40_2, t40_3, t40_4⟩ := hQ
    have g_b_318 := Nat.le_trans (own_zO O) t40_4
    have N := Fr.app N Nq40
    have O := O.keep Kq40 all0
    refine o_astore X hx hB #[.val (.long pa), .second, .val (.long pb), .second, .val (.long ps), .second, .val (.int fl), .val (.int (0 : Int32)), .val (.int (1 : Int32)), .val (.ref b28), .val (.ref b68), .val (.int (0 : Int32)), .val (.int (0 : Int32)), .val (.ref b128), .val (.ref b137), .val (.int ((1 : Int32) + (1 : Int32))), .val (.ref b278), .val (.ref b_318), .unset] at_321 rfl rfl ?_
    refine o_aload X hx hB at_323 rfl rfl ?_
    refine o_aload X hx hB at_325 rfl rfl ?_
    have f41 := (((((((t16_0.ext E17).keep Kq21).keep Kq22).ext E23).keep Kq25).keep Kq29).keep Kq32).keep Kq40
    have z42 := own_ne1 t16_0.lt g17
    have z43 := own_ne1 (((t16_0.ext E17).keep Kq21).keep Kq22).lt g23
    have z44 := own_ne2 ((((t16_0.ext E17).keep Kq21).keep Kq22).ext E23).lt t25_8
    have z45 := own_ne2 ((((t16_0.ext E17).keep Kq21).keep Kq22).ext E23).lt t25_7
    have f46 := (((((((t16_2.ext E17).keep Kq21 (ninS z42 nin0)).keep Kq22 (ninS z42 nin0)).ext E23).keep Kq25 (ninS z43 nin0)).keep Kq29 (ninS z45 (ninS z44 nin0))).keep Kq32 (ninS z45 (ninS z44 nin0))).keep Kq40 nin0
    have f47 := (((((((t16_3.ext E17).keep Kq21 (ninS z42 nin0)).keep Kq22 (ninS z42 nin0)).ext E23).keep Kq25 (ninS z43 nin0)).keep Kq29 (ninS z45 (ninS z44 nin0))).keep Kq32 (ninS z45 (ninS z44 nin0))).keep Kq40 nin0
    refine own_kP (own_cst X hx hZ hB (W := 0) hown (W 184 rfl) (W 185 rfl) (W 187 rfl) (W 186 rfl) (by decide) (rm_28_0 l Z a0 hw [] dc kd cr cc mr hG b_318 b128 dc kd [] dc kd [] _ n0 (own_zO O) O t40_0 t40_2 t40_3 f41 f46 f47) (by decide) (by decide) rfl hml rfl pd_22 rfl rfl rfl at_327 (by decide) (by decide)) rfl rfl fun T X eT => ?_
    refine o_ifYes X hx hB at_330 (Jvm.Free.XT.i0_ne_t (by decide : ¬ ((1 : Int32) = 0))) 335 ?_
    refine o_aload X hx hB at_335 rfl rfl ?_
    have f48 := t32_0.keep Kq40
    have f49 := t32_1.keep Kq40 nin0
    have f50 := t32_2.keep Kq40
    have f51 := t32_3.keep Kq40 nin0
    have f52 := t32_4.keep Kq40 nin0
    have f53 := f33.keep Kq40 nin0
    have f54 := f34.keep Kq40 nin0
    refine own_kP (own_cvi X hx hZ hB (W := 0) hown (W 131 rfl) (W 132 rfl) (W 134 rfl) (W 133 rfl) (W 135 rfl) (W 70 rfl) (by decide) (rm_19 l Z a0 hw [] dc kd cr cc mr hG b278 d_282 ea_282 k_282 (own_p 17 [.ref x_292, .ref x_300]) (0 : Int32) (2 : Int32) _ n0 (own_zO O) O f48 f49 f50 f51 f52 f53 f54 (by decide)) (by decide) (by decide) eT f48 hml rfl pd_9 rfl rfl rfl at_337 (by decide) (by decide)) rfl rfl fun T X eT => ?_
    refine o_iload X hx hB at_340 rfl ?_
    refine o_icmpYes X hx hB at_342 (Jvm.Free.XT.ii_eq_t (by decide : ((2 : Int32) - (0 : Int32)) = ((1 : Int32) + (1 : Int32)))) 347 ?_
    refine o_aload X hx hB at_347 rfl rfl ?_
    have f55 := f35.keep Kq40
    have f56 := f38.keep Kq40 nin0
    have f57 := f39.keep Kq40 nin0
    have f58 := (((((((((((t6_0.ext E7).keep Kq11).ext E12).keep Kq16).ext E17).keep Kq21).keep Kq22).ext E23).keep Kq25).keep Kq29).keep Kq32).keep Kq40
    have z59 := own_ne1 t6_0.lt g7
    have z60 := own_ne1 ((t6_0.ext E7).keep Kq11).lt g12
    have z61 := own_ne1 ((((t6_0.ext E7).keep Kq11).ext E12).keep Kq16).lt g17
    have z62 := own_ne1 (((((((t6_0.ext E7).keep Kq11).ext E12).keep Kq16).ext E17).keep Kq21).keep Kq22).lt g23
    have z63 := own_ne2 ((((((((t6_0.ext E7).keep Kq11).ext E12).keep Kq16).ext E17).keep Kq21).keep Kq22).ext E23).lt t25_8
    have z64 := own_ne2 ((((((((t6_0.ext E7).keep Kq11).ext E12).keep Kq16).ext E17).keep Kq21).keep Kq22).ext E23).lt t25_7
    have f65 := (((((((((((t6_2.ext E7).keep Kq11 (ninS z59 nin0)).ext E12).keep Kq16 (ninS z60 nin0)).ext E17).keep Kq21 (ninS z61 nin0)).keep Kq22 (ninS z61 nin0)).ext E23).keep Kq25 (ninS z62 nin0)).keep Kq29 (ninS z64 (ninS z63 nin0))).keep Kq32 (ninS z64 (ninS z63 nin0))).keep Kq40 nin0
    have f66 := ((((((((((((own_castI (j := (1 : Int32)) (by decide) t6_3).ext E7).keep Kq11 (ninS z59 nin0)).ext E12).keep Kq16 (ninS z60 nin0)).ext E17).keep Kq21 (ninS z61 nin0)).keep Kq22 (ninS z61 nin0)).ext E23).keep Kq25 (ninS z62 nin0)).keep Kq29 (ninS z64 (ninS z63 nin0))).keep Kq32 (ninS z64 (ninS z63 nin0))).keep Kq40 nin0
    have z67 := own_ne1 ((own_castA (us := (own_p 10 [.ref i10])) (by rfl) t6_4)).2.2.2.lt g7
    have z68 := own_ne1 ((((own_castA (us := (own_p 10 [.ref i10])) (by rfl) t6_4)).2.2.2.ext E7).keep Kq11).lt g12
    have z69 := own_ne1 ((((((own_castA (us := (own_p 10 [.ref i10])) (by rfl) t6_4)).2.2.2.ext E7).keep Kq11).ext E12).keep Kq16).lt g17
    have z70 := own_ne1 (((((((((own_castA (us := (own_p 10 [.ref i10])) (by rfl) t6_4)).2.2.2.ext E7).keep Kq11).ext E12).keep Kq16).ext E17).keep Kq21).keep Kq22).lt g23
    have z71 := own_ne2 ((((((((((own_castA (us := (own_p 10 [.ref i10])) (by rfl) t6_4)).2.2.2.ext E7).keep Kq11).ext E12).keep Kq16).ext E17).keep Kq21).keep Kq22).ext E23).lt t25_8
    have z72 := own_ne2 ((((((((((own_castA (us := (own_p 10 [.ref i10])) (by rfl) t6_4)).2.2.2.ext E7).keep Kq11).ext E12).keep Kq16).ext E17).keep Kq21).keep Kq22).ext E23).lt t25_7
    have f73 := ((((((((((((own_castA (us := (own_p 10 [.ref i10])) (by rfl) t6_4).ext E7).keep Kq11 (ninS z67 nin0)).ext E12).keep Kq16 (ninS z68 nin0)).ext E17).keep Kq21 (ninS z69 nin0)).keep Kq22 (ninS z69 nin0)).ext E23).keep Kq25 (ninS z70 nin0)).keep Kq29 (ninS z72 (ninS z71 nin0))).keep Kq32 (ninS z72 (ninS z71 nin0))).keep Kq40 nin0
    have f74 := t32_8.keep Kq40
    have f75 := t32_9.keep Kq40 nin0
    have f76 := t32_10.keep Kq40 nin0
    have f77 := (((((((((t11_0.ext E12).keep Kq16).ext E17).keep Kq21).keep Kq22).ext E23).keep Kq25).keep Kq29).keep Kq32).keep Kq40
    have z78 := own_ne1 t11_0.lt g12
    have z79 := own_ne1 ((t11_0.ext E12).keep Kq16).lt g17
    have z80 := own_ne1 (((((t11_0.ext E12).keep Kq16).ext E17).keep Kq21).keep Kq22).lt g23
    have z81 := own_ne2 ((((((t11_0.ext E12).keep Kq16).ext E17).keep Kq21).keep Kq22).ext E23).lt t25_8
    have z82 := own_ne2 ((((((t11_0.ext E12).keep Kq16).ext E17).keep Kq21).keep Kq22).ext E23).lt t25_7
    have f83 := (((((((((t11_2.ext E12).keep Kq16 (ninS z78 nin0)).ext E17).keep Kq21 (ninS z79 nin0)).keep Kq22 (ninS z79 nin0)).ext E23).keep Kq25 (ninS z80 nin0)).keep Kq29 (ninS z82 (ninS z81 nin0))).keep Kq32 (ninS z82 (ninS z81 nin0))).keep Kq40 nin0
    have f84 := (((((((((t11_3.ext E12).keep Kq16 (ninS z78 nin0)).ext E17).keep Kq21 (ninS z79 nin0)).keep Kq22 (ninS z79 nin0)).ext E23).keep Kq25 (ninS z80 nin0)).keep Kq29 (ninS z82 (ninS z81 nin0))).keep Kq32 (ninS z82 (ninS z81 nin0))).keep Kq40 nin0
    have z85 := own_ne2 t29_8.lt t32_11
    refine own_kQ (own_cvi X hx hZ hB (W := 0) hown (W 196 rfl) (W 197 rfl) (W 199 rfl) (W 198 rfl) (W 200 rfl) (W 70 rfl) (by decide) (rm_30_Ce l Z a0 hw [] dc kd cr cc mr hG b278 d_282 ea_282 k_282 (own_p 17 [.ref x_292, .ref x_300]) (0 : Int32) (2 : Int32) x_292 pa b28 b_44 (1 : Int32) k_44 (own_p 10 [.ref i10]) [Value.ref i10] x_300 pb b68 _ n0 (own_zO O) O f48 f49 f50 f51 f52 f53 f54 t32_7 f55 f56 f57 f58 f65 f66 f73 (Ne.symm z71) f74 f75 f76 f77 f83 f84 z85 g_d_282 g_ea_282 (by decide) ⟨by decide, by decide⟩ (by rfl) (own_mx pa) (by decide) (by decide) (by decide) (by decide) (by decide) (by rfl) ⟨rfl, (own_cI hX10 own_nI)⟩ (by decide) (by decide) (by decide) (by decide) ⟨by decide, by decide⟩ (by rfl) (own_mx pb) (by decide) (by decide)) (by decide) (by decide) eT f48 hml rfl pd_18 rfl rfl rfl at_349 (by decide) (by decide)) fun v T L86 hQ X => ?_
    obtain ⟨b_349, eb_349, ke0_349, rfl, Nq86, Kq86, t86_0, t86_1, t86_2, t86_3, t86_4, t86_5, t86_6, t86_7, t86_8, t86_9, t86_10, t86_11, t86_12, t86_13⟩ := hQ
    have g_b_349 := Nat.le_trans (own_zO O) t86_4
    have g_eb_349 := Nat.le_trans (own_zO O) t86_7
    have N := Fr.app N Nq86
    have O := O.keep Kq86 (allS g_d_282 (allS g_ea_282 all0))
    refine o_astore X hx hB #[.val (.long pa), .second, .val (.long pb), .second, .val (.long ps), .second, .val (.int fl), .val (.int (0 : Int32)), .val (.int (1 : Int32)), .val (.ref b28), .val (.ref b68), .val (.int (0 : Int32)), .val (.int (0 : Int32)), .val (.ref b128), .val (.ref b137), .val (.int ((1 : Int32) + (1 : Int32))), .val (.ref b278), .val (.ref b_318), .val (.ref b_349)] at_352 rfl rfl ?_
    refine o_aload X hx hB at_354 rfl rfl ?_
    refine o_aload X hx hB at_356 rfl rfl ?_
    have f87 := own_castI (j := (1 : Int32)) (by decide) t86_3
    have f88 := own_castA (us := (own_p 10 [.ref i10])) (by rfl) t86_5
    have f89 := (((((t22_0.ext E23).keep Kq25).keep Kq29).keep Kq32).keep Kq40).keep Kq86
    have z90 := own_ne1 t22_0.lt g23
    have z91 := own_ne2 (t22_0.ext E23).lt t25_8
    have z92 := own_ne2 (t22_0.ext E23).lt t25_7
    have f93 := (((((t22_2.ext E23).keep Kq25 (ninS z90 nin0)).keep Kq29 (ninS z92 (ninS z91 nin0))).keep Kq32 (ninS z92 (ninS z91 nin0))).keep Kq40 nin0).keep Kq86 (ninS z92 (ninS z91 nin0))
    have f94 := ((((((own_castI (j := (1 : Int32)) (by decide) t22_3).ext E23).keep Kq25 (ninS z90 nin0)).keep Kq29 (ninS z92 (ninS z91 nin0))).keep Kq32 (ninS z92 (ninS z91 nin0))).keep Kq40 nin0).keep Kq86 (ninS z92 (ninS z91 nin0))
    have z95 := own_ne1 ((own_castA (us := (own_p 10 [.ref i10])) (by rfl) t22_4)).2.2.2.lt g23
    have z96 := own_ne2 (((own_castA (us := (own_p 10 [.ref i10])) (by rfl) t22_4)).2.2.2.ext E23).lt t25_8
    have z97 := own_ne2 (((own_castA (us := (own_p 10 [.ref i10])) (by rfl) t22_4)).2.2.2.ext E23).lt t25_7
    have f98 := ((((((own_castA (us := (own_p 10 [.ref i10])) (by rfl) t22_4).ext E23).keep Kq25 (ninS z95 nin0)).keep Kq29 (ninS z97 (ninS z96 nin0))).keep Kq32 (ninS z97 (ninS z96 nin0))).keep Kq40 nin0).keep Kq86 (ninS z97 (ninS z96 nin0))
    refine own_kP (own_cst X hx hZ hB (W := 0) hown (W 184 rfl) (W 185 rfl) (W 187 rfl) (W 186 rfl) (by decide) (rm_28_1 l Z a0 hw [] dc kd cr cc mr hG b_349 b137 eb_349 ke0_349 (own_p 10 [.ref i10]) b_192 k_192 (own_p 10 [.ref i10]) i10 vv10 _ n0 (own_zO O) O t86_0 t86_2 f87 f88 f89 f93 f94 f98 (hX10.ext O.2) (hV10.ext O.2) (by rfl) (by rfl)) (by decide) (by decide) rfl hml rfl pd_22 rfl rfl rfl at_358 (by decide) (by decide)) rfl rfl fun T X eT => ?_
    refine o_ifYes X hx hB at_361 (Jvm.Free.XT.i0_ne_t (by decide : ¬ ((1 : Int32) = 0))) 366 ?_
    refine o_aload X hx hB at_366 rfl rfl ?_
    have f99 := f48.keep Kq86
    have z100 := own_ne2 A23.lt t25_8
    have z101 := own_ne2 A23.lt t25_7
    have f102 := f49.keep Kq86 (ninS z101 (ninS z100 nin0))
    have f103 := own_castI (j := (2 : Int32)) (by decide) t86_10
    have f104 := own_castA (us := (own_p 17 [.null, .null])) (by rfl) t86_12
    refine own_kP (own_cvi X hx hZ hB (W := 0) hown (W 131 rfl) (W 132 rfl) (W 134 rfl) (W 133 rfl) (W 135 rfl) (W 70 rfl) (by decide) (rm_19 l Z a0 hw [] dc kd cr cc mr hG b278 d_282 ea_282 k_282 (own_p 17 [.null, .null]) (2 : Int32) (2 : Int32) _ n0 (own_zO O) O f99 f102 t86_8 t86_9 f103 t86_11 f104 (by decide)) (by decide) (by decide) eT f99 hml rfl pd_9 rfl rfl rfl at_368 (by decide) (by decide)) rfl rfl fun T X eT => ?_
    refine o_ifNo X hx hB at_371 (Jvm.Free.XT.i0_ne_f (by decide : ((2 : Int32) - (2 : Int32)) = 0)) ?_
    refine o_iconst X hx hB at_374 (1) ?_
    refine o_goto X hx hB at_375 379 ?_
    exact own_retN X hx (t := .boolean) Bd.returns (by simp) (hb hB at_379) (BodyLoose.notSynchronized Bd) (w := (1 : Int32)) rfl ⟨rfl, N⟩ (by decide) (by decide)
  · refine o_ifNo X hx hB at_99 (Jvm.Free.XT.ll_gt_f hPa) ?_
    refine o_iconst X hx hB at_102 (1) ?_
    refine o_goto X hx hB at_103 107 ?_
    refine o_istore X hx hB #[.val (.long pa), .second, .val (.long pb), .second, .val (.long ps), .second, .val (.int fl), .val (.int (0 : Int32)), .val (.int (1 : Int32)), .val (.ref b28), .val (.ref b68), .val (.int (1 : Int32)), .unset, .unset, .unset, .unset, .unset, .unset, .unset] at_107 rfl ?_
    refine o_iload X hx hB at_109 rfl ?_
    refine o_ifNo X hx hB at_111 (Jvm.Free.XT.i0_eq_f (by decide : ¬ ((1 : Int32) = 0))) ?_
    refine o_lloadN X hx hB at_114 rfl ?_
    refine o_lload X hx hB at_115 rfl ?_
    refine o_lcmp X hx hB at_117 ?_
    by_cases hPb : ps < pb
    · refine o_ifYes X hx hB at_118 (Jvm.Free.XT.ll_gt_t hPb) 125 ?_
      refine o_iconst X hx hB at_125 (0) ?_
      refine o_istore X hx hB #[.val (.long pa), .second, .val (.long pb), .second, .val (.long ps), .second, .val (.int fl), .val (.int (0 : Int32)), .val (.int (1 : Int32)), .val (.ref b28), .val (.ref b68), .val (.int (1 : Int32)), .val (.int (0 : Int32)), .unset, .unset, .unset, .unset, .unset, .unset] at_126 rfl ?_
      refine o_new X hx hZ hB hown (W 0 rfl) (W 1 rfl) (W 2 rfl) rfl at_128 (by decide) (by decide) fun T h105 b128 g105 X eT E105 A105 D105 => ?_
      have g_b128 := own_gn O g105
      have O := O.ext E105
      refine o_dup X hx hB at_131 rfl ?_
      have f106 := D105 (Or.inl (W 22 rfl)) (ty := .int) (by decide)
      have f107 := D105 (Or.inl (W 25 rfl)) (ty := (.array (.object "java/lang/Object"))) (by decide)
      have f108 := D105 (Or.inl (W 45 rfl)) (ty := .int) (by decide)
      refine own_kQ (own_csp X hx hZ hB (W := 1) hown rfl (W 3 rfl) (W 4 rfl) (W 5 rfl) (W 2 rfl) (by decide) (rm_1 l Z a0 hw [] dc kd cr cc mr hG b128 (0 : Int32) (0 : Int32) _ n0 (own_zO O) O A105 f106 f107 f108 g_b128) (by decide) (by decide) eT hml rfl pd_0 rfl rfl rfl at_132 (by decide) (by decide)) fun v T L109 hQ X => ?_
      obtain ⟨rfl, Nq109, Kq109, t109_0, t109_1, t109_2, t109_3⟩ := hQ
      have N := Fr.app N Nq109
      have O := O.keep Kq109 (allS g_b128 all0)
      refine o_astore X hx hB #[.val (.long pa), .second, .val (.long pb), .second, .val (.long ps), .second, .val (.int fl), .val (.int (0 : Int32)), .val (.int (1 : Int32)), .val (.ref b28), .val (.ref b68), .val (.int (1 : Int32)), .val (.int (0 : Int32)), .val (.ref b128), .unset, .unset, .unset, .unset, .unset] at_135 rfl rfl ?_
      refine o_new X hx hZ hB hown (W 0 rfl) (W 1 rfl) (W 2 rfl) rfl at_137 (by decide) (by decide) fun T h110 b137 g110 X eT E110 A110 D110 => ?_
      have g_b137 := own_gn O g110
      have O := O.ext E110
      refine o_dup X hx hB at_140 rfl ?_
      have f111 := D110 (Or.inl (W 22 rfl)) (ty := .int) (by decide)
      have f112 := D110 (Or.inl (W 25 rfl)) (ty := (.array (.object "java/lang/Object"))) (by decide)
      have f113 := D110 (Or.inl (W 45 rfl)) (ty := .int) (by decide)
      refine own_kQ (own_csp X hx hZ hB (W := 1) hown rfl (W 3 rfl) (W 4 rfl) (W 5 rfl) (W 2 rfl) (by decide) (rm_1 l Z a0 hw [] dc kd cr cc mr hG b137 (0 : Int32) (0 : Int32) _ n0 (own_zO O) O A110 f111 f112 f113 g_b137) (by decide) (by decide) eT hml rfl pd_0 rfl rfl rfl at_141 (by decide) (by decide)) fun v T L114 hQ X => ?_
      obtain ⟨rfl, Nq114, Kq114, t114_0, t114_1, t114_2, t114_3⟩ := hQ
      have N := Fr.app N Nq114
      have O := O.keep Kq114 (allS g_b137 all0)
      refine o_astore X hx hB #[.val (.long pa), .second, .val (.long pb), .second, .val (.long ps), .second, .val (.int fl), .val (.int (0 : Int32)), .val (.int (1 : Int32)), .val (.ref b28), .val (.ref b68), .val (.int (1 : Int32)), .val (.int (0 : Int32)), .val (.ref b128), .val (.ref b137), .unset, .unset, .unset, .unset] at_144 rfl rfl ?_
      refine o_iload X hx hB at_146 rfl ?_
      refine o_ifNo X hx hB at_148 (Jvm.Free.XT.i0_eq_f (by decide : ¬ ((1 : Int32) = 0))) ?_
      refine o_aload X hx hB at_151 rfl rfl ?_
      refine o_bipush X hx hB at_153 (10) ?_
      refine own_kP (own_cst X hx hZ hB (W := 1) hown (W 26 rfl) (W 27 rfl) (W 29 rfl) (W 28 rfl) (by decide) (rm_5 l Z a0 hw [] dc kd cr cc mr hG (10 : Int32) i10 _ n0 (own_zO O) O (by decide) (by decide) hin10 hs10) (by decide) (by decide) rfl hml rfl pd_21 rfl rfl rfl at_155 (by decide) (by decide)) rfl rfl fun T X eT => ?_
      have f115 := (t109_0.ext E110).keep Kq114
      have z116 := own_ne1 t109_0.lt g110
      have f117 := (t109_1.ext E110).keep Kq114 (ninS z116 nin0)
      have f118 := (t109_2.ext E110).keep Kq114 (ninS z116 nin0)
      have f119 := (t109_3.ext E110).keep Kq114 (ninS z116 nin0)
      refine own_kQ (own_cif X hx hZ hB (W := 0) hown (W 33 rfl) (W 34 rfl) (W 35 rfl) (W 36 rfl) (W 37 rfl) (W 38 rfl) (W 39 rfl) (W 40 rfl) (W 41 rfl) (W 2 rfl) (by decide) (rm_6f l Z a0 hw [] dc kd cr cc mr hG b128 i10 (0 : Int32) _ n0 (own_zO O) O f115 f117 f118 f119 g_b128 hX10) (by decide) (by decide) eT f115 hml rfl pd_7 rfl rfl rfl at_158 (by decide) (by decide)) fun v T L120 hQ X => ?_
      obtain ⟨b_158, k_158, rfl, Nq120, Kq120, t120_0, t120_1, t120_2, t120_3, t120_4, t120_5, t120_6⟩ := hQ
      have g_b_158 := Nat.le_trans (own_zO O) t120_5
      have N := Fr.app N Nq120
      have O := O.keep Kq120 (allS g_b128 all0)
      refine o_pop X hx hB at_163 rfl ?_
      refine o_iload X hx hB at_164 rfl ?_
      refine o_ifYes X hx hB at_166 (Jvm.Free.XT.i0_eq_t (by decide : (0 : Int32) = 0)) 216 ?_
      refine o_iload X hx hB at_216 rfl ?_
      refine o_ifYes X hx hB at_218 (Jvm.Free.XT.i0_ne_t (by decide : ¬ ((1 : Int32) = 0))) 255 ?_
      refine o_iload X hx hB at_255 rfl ?_
      refine o_ifNo X hx hB at_257 (Jvm.Free.XT.i0_eq_f (by decide : ¬ ((1 : Int32) = 0))) ?_
      refine o_iconst X hx hB at_260 (0) ?_
      refine o_goto X hx hB at_261 265 ?_
      refine o_iload X hx hB at_265 rfl ?_
      refine o_ifYes X hx hB at_267 (Jvm.Free.XT.i0_eq_t (by decide : (0 : Int32) = 0)) 274 ?_
      refine o_iconst X hx hB at_274 (1) ?_
      refine o_iadd X hx hB at_275 ?_
      refine o_istore X hx hB #[.val (.long pa), .second, .val (.long pb), .second, .val (.long ps), .second, .val (.int fl), .val (.int (0 : Int32)), .val (.int (1 : Int32)), .val (.ref b28), .val (.ref b68), .val (.int (1 : Int32)), .val (.int (0 : Int32)), .val (.ref b128), .val (.ref b137), .val (.int ((0 : Int32) + (1 : Int32))), .unset, .unset, .unset] at_276 rfl ?_
      refine o_new X hx hZ hB hown (W 68 rfl) (W 69 rfl) (W 70 rfl) rfl at_278 (by decide) (by decide) fun T h121 b278 g121 X eT E121 A121 D121 => ?_
      have g_b278 := own_gn O g121
      have O := O.ext E121
      refine o_dup X hx hB at_281 rfl ?_
      have f122 := D121 (Or.inr (W 87 rfl)) (ty := (.object "java/util/Deque")) (by decide)
      refine own_kQ (own_csp X hx hZ hB (W := 1) hown rfl (W 71 rfl) (W 72 rfl) (W 73 rfl) (W 70 rfl) (by decide) (rm_11 l Z a0 hw [] dc kd cr cc mr hG b278 _ n0 (own_zO O) O A121 f122 g_b278) (by decide) (by decide) eT hml rfl pd_0 rfl rfl rfl at_282 (by decide) (by decide)) fun v T L123 hQ X => ?_
      obtain ⟨d_282, ea_282, k_282, rfl, Nq123, Kq123, t123_0, t123_1, t123_2, t123_3, t123_4, t123_5, t123_6, t123_7, t123_8⟩ := hQ
      have g_d_282 := Nat.le_trans (own_zO O) t123_7
      have g_ea_282 := Nat.le_trans (own_zO O) t123_8
      have N := Fr.app N Nq123
      have O := O.keep Kq123 (allS g_b278 all0)
      refine o_astore X hx hB #[.val (.long pa), .second, .val (.long pb), .second, .val (.long ps), .second, .val (.int fl), .val (.int (0 : Int32)), .val (.int (1 : Int32)), .val (.ref b28), .val (.ref b68), .val (.int (1 : Int32)), .val (.int (0 : Int32)), .val (.ref b128), .val (.ref b137), .val (.int ((0 : Int32) + (1 : Int32))), .val (.ref b278), .unset, .unset] at_285 rfl rfl ?_
      refine o_aload X hx hB at_287 rfl rfl ?_
      refine o_lloadN X hx hB at_289 rfl ?_
      refine o_aload X hx hB at_290 rfl rfl ?_
      have f124 := own_castA (us := (own_p 17 [])) (by rfl) t123_6
      have f125 := ((own_castA (us := (own_p 17 [])) (by rfl) t123_6)).2.2.2
      have z126 := Exa.ne t123_2 f125 (by decide)
      refine own_kQ (own_cvi X hx hZ hB (W := 0) hown (W 88 rfl) (W 89 rfl) (W 91 rfl) (W 90 rfl) (W 92 rfl) (W 70 rfl) (by decide) (rm_13 l Z a0 hw [] dc kd cr cc mr hG b278 pa b28 d_282 ea_282 k_282 (own_p 17 []) (0 : Int32) (0 : Int32) _ n0 (own_zO O) O t123_0 t123_1 t123_2 t123_3 t123_4 t123_5 f124 z126 g_d_282 g_ea_282 ⟨by decide, by decide⟩ (by decide) (by decide)) (by decide) (by decide) rfl t123_0 hml rfl pd_6 rfl rfl rfl at_292 (by decide) (by decide)) fun v T L127 hQ X => ?_
      obtain ⟨x_292, rfl, Nq127, Kq127, t127_0, t127_1, t127_2, t127_3, t127_4, t127_5, t127_6, t127_7, t127_8, t127_9, t127_10, t127_11⟩ := hQ
      have g_x_292 := Nat.le_trans (own_zO O) t127_11
      have N := Fr.app N Nq127
      have O := O.keep Kq127 (allS g_d_282 (allS g_ea_282 all0))
      refine o_aload X hx hB at_295 rfl rfl ?_
      refine o_lloadN X hx hB at_297 rfl ?_
      refine o_aload X hx hB at_298 rfl rfl ?_
      have f128 := own_castI (j := (1 : Int32)) (by decide) t127_5
      have f129 := own_castA (us := (own_p 17 [.ref x_292])) (by rfl) t127_6
      refine own_kQ (own_cvi X hx hZ hB (W := 0) hown (W 88 rfl) (W 89 rfl) (W 91 rfl) (W 90 rfl) (W 92 rfl) (W 70 rfl) (by decide) (rm_13 l Z a0 hw [] dc kd cr cc mr hG b278 pb b68 d_282 ea_282 k_282 (own_p 17 [.ref x_292]) (0 : Int32) (1 : Int32) _ n0 (own_zO O) O t127_0 t127_1 t127_2 t127_3 t127_4 f128 f129 t127_7 g_d_282 g_ea_282 ⟨by decide, by decide⟩ (by decide) (by decide)) (by decide) (by decide) rfl t127_0 hml rfl pd_6 rfl rfl rfl at_300 (by decide) (by decide)) fun v T L130 hQ X => ?_
      obtain ⟨x_300, rfl, Nq130, Kq130, t130_0, t130_1, t130_2, t130_3, t130_4, t130_5, t130_6, t130_7, t130_8, t130_9, t130_10, t130_11⟩ := hQ
      have g_x_300 := Nat.le_trans (own_zO O) t130_11
      have N := Fr.app N Nq130
      have O := O.keep Kq130 (allS g_d_282 (allS g_ea_282 all0))
      refine o_aload X hx hB at_303 rfl rfl ?_
      have f131 := own_castI (j := (2 : Int32)) (by decide) t130_5
      have f132 := own_castA (us := (own_p 17 [.ref x_292, .ref x_300])) (by rfl) t130_6
      refine own_kP (own_cvi X hx hZ hB (W := 0) hown (W 131 rfl) (W 132 rfl) (W 134 rfl) (W 133 rfl) (W 135 rfl) (W 70 rfl) (by decide) (rm_19 l Z a0 hw [] dc kd cr cc mr hG b278 d_282 ea_282 k_282 (own_p 17 [.ref x_292, .ref x_300]) (0 : Int32) (2 : Int32) _ n0 (own_zO O) O t130_0 t130_1 t130_2 t130_3 t130_4 f131 f132 (by decide)) (by decide) (by decide) rfl t130_0 hml rfl pd_9 rfl rfl rfl at_305 (by decide) (by decide)) rfl rfl fun T X eT => ?_
      refine o_iconst X hx hB at_308 (2) ?_
      refine o_icmpYes X hx hB at_309 (Jvm.Free.XT.ii_eq_t (by decide : ((2 : Int32) - (0 : Int32)) = (2 : Int32))) 314 ?_
      refine o_aload X hx hB at_314 rfl rfl ?_
      refine o_lload X hx hB at_316 rfl ?_
      have f133 := t127_8.keep Kq130
      have z134 := own_ne2 f125.lt t127_11
      have z135 := own_ne2 t123_2.lt t127_11
      have f136 := t127_9.keep Kq130 (ninS (Ne.symm z135) (ninS (Ne.symm z134) nin0))
      have f137 := t127_10.keep Kq130 (ninS (Ne.symm z135) (ninS (Ne.symm z134) nin0))
      have f138 := ((((((((((t6_0.ext E7).keep Kq11).ext E105).keep Kq109).ext E110).keep Kq114).keep Kq120).ext E121).keep Kq123).keep Kq127).keep Kq130
      have z139 := own_ne1 t6_0.lt g7
      have z140 := own_ne1 ((t6_0.ext E7).keep Kq11).lt g105
      have z141 := own_ne1 ((((t6_0.ext E7).keep Kq11).ext E105).keep Kq109).lt g110
      have z142 := own_ne1 (((((((t6_0.ext E7).keep Kq11).ext E105).keep Kq109).ext E110).keep Kq114).keep Kq120).lt g121
      have z143 := own_ne2 ((((((((t6_0.ext E7).keep Kq11).ext E105).keep Kq109).ext E110).keep Kq114).keep Kq120).ext E121).lt t123_8
      have z144 := own_ne2 ((((((((t6_0.ext E7).keep Kq11).ext E105).keep Kq109).ext E110).keep Kq114).keep Kq120).ext E121).lt t123_7
      have f145 := ((((((((((t6_2.ext E7).keep Kq11 (ninS z139 nin0)).ext E105).keep Kq109 (ninS z140 nin0)).ext E110).keep Kq114 (ninS z141 nin0)).keep Kq120 (ninS z140 nin0)).ext E121).keep Kq123 (ninS z142 nin0)).keep Kq127 (ninS z144 (ninS z143 nin0))).keep Kq130 (ninS z144 (ninS z143 nin0))
      have f146 := (((((((((((own_castI (j := (1 : Int32)) (by decide) t6_3).ext E7).keep Kq11 (ninS z139 nin0)).ext E105).keep Kq109 (ninS z140 nin0)).ext E110).keep Kq114 (ninS z141 nin0)).keep Kq120 (ninS z140 nin0)).ext E121).keep Kq123 (ninS z142 nin0)).keep Kq127 (ninS z144 (ninS z143 nin0))).keep Kq130 (ninS z144 (ninS z143 nin0))
      have z147 := own_ne1 ((own_castA (us := (own_p 10 [.ref i10])) (by rfl) t6_4)).2.2.2.lt g7
      have z148 := own_ne1 ((((own_castA (us := (own_p 10 [.ref i10])) (by rfl) t6_4)).2.2.2.ext E7).keep Kq11).lt g105
      have z149 := own_ne1 ((((((own_castA (us := (own_p 10 [.ref i10])) (by rfl) t6_4)).2.2.2.ext E7).keep Kq11).ext E105).keep Kq109).lt g110
      have z150 := own_ne1 (((((((((own_castA (us := (own_p 10 [.ref i10])) (by rfl) t6_4)).2.2.2.ext E7).keep Kq11).ext E105).keep Kq109).ext E110).keep Kq114).keep Kq120).lt g121
      have z151 := own_ne2 ((((((((((own_castA (us := (own_p 10 [.ref i10])) (by rfl) t6_4)).2.2.2.ext E7).keep Kq11).ext E105).keep Kq109).ext E110).keep Kq114).keep Kq120).ext E121).lt t123_8
      have z152 := own_ne2 ((((((((((own_castA (us := (own_p 10 [.ref i10])) (by rfl) t6_4)).2.2.2.ext E7).keep Kq11).ext E105).keep Kq109).ext E110).keep Kq114).keep Kq120).ext E121).lt t123_7
      have f153 := (((((((((((own_castA (us := (own_p 10 [.ref i10])) (by rfl) t6_4).ext E7).keep Kq11 (ninS z147 nin0)).ext E105).keep Kq109 (ninS z148 nin0)).ext E110).keep Kq114 (ninS z149 nin0)).keep Kq120 (ninS z148 nin0)).ext E121).keep Kq123 (ninS z150 nin0)).keep Kq127 (ninS z152 (ninS z151 nin0))).keep Kq130 (ninS z152 (ninS z151 nin0))
      refine own_kQ (own_cvi X hx hZ hB (W := 0) hown (W 147 rfl) (W 148 rfl) (W 150 rfl) (W 149 rfl) (W 151 rfl) (W 70 rfl) (by decide) (rm_22_B l Z a0 hw [] dc kd cr cc mr hG b278 ps d_282 ea_282 k_282 (own_p 17 [.ref x_292, .ref x_300]) (0 : Int32) (2 : Int32) x_292 pa b28 b_44 (1 : Int32) k_44 (own_p 10 [.ref i10]) [Value.ref i10] x_300 pb b68 _ n0 (own_zO O) O t130_0 t130_1 t130_2 t130_3 t130_4 f131 f132 t130_7 f133 f136 f137 f138 f145 f146 f153 (Ne.symm z151) t130_8 t130_9 t130_10 g_d_282 g_ea_282 (by decide) ⟨by decide, by decide⟩ (by rfl) hPa (by decide) (by decide) (by decide) (by decide) (by decide) (by rfl) ⟨rfl, (own_cI hX10 own_nI)⟩ (by decide) (by decide) (by decide) (by decide) ⟨by decide, by decide⟩ (by rfl) hPb) (by decide) (by decide) eT t130_0 hml rfl pd_20 rfl rfl rfl at_318 (by decide) (by decide)) fun v T L154 hQ X => ?_
      obtain ⟨b_318, eb_318, ke0_318, rfl, Nq154, Kq154, t154_0, t154_1, t154_2, t154_3, t154_4, t154_5, t154_6, t154_7, t154_8, t154_9, t154_10, t154_11, t154_12, t154_13⟩ := hQ
      have g_b_318 := Nat.le_trans (own_zO O) t154_4
      have g_eb_318 := Nat.le_trans (own_zO O) t154_7
      have N := Fr.app N Nq154
      have O := O.keep Kq154 (allS g_d_282 (allS g_ea_282 all0))
      refine o_astore X hx hB #[.val (.long pa), .second, .val (.long pb), .second, .val (.long ps), .second, .val (.int fl), .val (.int (0 : Int32)), .val (.int (1 : Int32)), .val (.ref b28), .val (.ref b68), .val (.int (1 : Int32)), .val (.int (0 : Int32)), .val (.ref b128), .val (.ref b137), .val (.int ((0 : Int32) + (1 : Int32))), .val (.ref b278), .val (.ref b_318), .unset] at_321 rfl rfl ?_
      refine o_aload X hx hB at_323 rfl rfl ?_
      refine o_aload X hx hB at_325 rfl rfl ?_
      have f155 := own_castI (j := (1 : Int32)) (by decide) t154_3
      have f156 := own_castA (us := (own_p 10 [.ref i10])) (by rfl) t154_5
      have f157 := ((((t120_0.ext E121).keep Kq123).keep Kq127).keep Kq130).keep Kq154
      have z158 := own_ne1 t120_0.lt g121
      have z159 := own_ne2 (t120_0.ext E121).lt t123_8
      have z160 := own_ne2 (t120_0.ext E121).lt t123_7
      have f161 := ((((t120_2.ext E121).keep Kq123 (ninS z158 nin0)).keep Kq127 (ninS z160 (ninS z159 nin0))).keep Kq130 (ninS z160 (ninS z159 nin0))).keep Kq154 (ninS z160 (ninS z159 nin0))
      have f162 := (((((own_castI (j := (1 : Int32)) (by decide) t120_3).ext E121).keep Kq123 (ninS z158 nin0)).keep Kq127 (ninS z160 (ninS z159 nin0))).keep Kq130 (ninS z160 (ninS z159 nin0))).keep Kq154 (ninS z160 (ninS z159 nin0))
      have z163 := own_ne1 ((own_castA (us := (own_p 10 [.ref i10])) (by rfl) t120_4)).2.2.2.lt g121
      have z164 := own_ne2 (((own_castA (us := (own_p 10 [.ref i10])) (by rfl) t120_4)).2.2.2.ext E121).lt t123_8
      have z165 := own_ne2 (((own_castA (us := (own_p 10 [.ref i10])) (by rfl) t120_4)).2.2.2.ext E121).lt t123_7
      have f166 := (((((own_castA (us := (own_p 10 [.ref i10])) (by rfl) t120_4).ext E121).keep Kq123 (ninS z163 nin0)).keep Kq127 (ninS z165 (ninS z164 nin0))).keep Kq130 (ninS z165 (ninS z164 nin0))).keep Kq154 (ninS z165 (ninS z164 nin0))
      refine own_kP (own_cst X hx hZ hB (W := 0) hown (W 184 rfl) (W 185 rfl) (W 187 rfl) (W 186 rfl) (by decide) (rm_28_1 l Z a0 hw [] dc kd cr cc mr hG b_318 b128 eb_318 ke0_318 (own_p 10 [.ref i10]) b_158 k_158 (own_p 10 [.ref i10]) i10 vv10 _ n0 (own_zO O) O t154_0 t154_2 f155 f156 f157 f161 f162 f166 (hX10.ext O.2) (hV10.ext O.2) (by rfl) (by rfl)) (by decide) (by decide) rfl hml rfl pd_22 rfl rfl rfl at_327 (by decide) (by decide)) rfl rfl fun T X eT => ?_
      refine o_ifYes X hx hB at_330 (Jvm.Free.XT.i0_ne_t (by decide : ¬ ((1 : Int32) = 0))) 335 ?_
      refine o_aload X hx hB at_335 rfl rfl ?_
      have f167 := t130_0.keep Kq154
      have z168 := own_ne2 A121.lt t123_8
      have z169 := own_ne2 A121.lt t123_7
      have f170 := t130_1.keep Kq154 (ninS z169 (ninS z168 nin0))
      have f171 := own_castI (j := (1 : Int32)) (by decide) t154_10
      have f172 := own_castA (us := (own_p 17 [.null, .ref x_300])) (by rfl) t154_12
      refine own_kP (own_cvi X hx hZ hB (W := 0) hown (W 131 rfl) (W 132 rfl) (W 134 rfl) (W 133 rfl) (W 135 rfl) (W 70 rfl) (by decide) (rm_19 l Z a0 hw [] dc kd cr cc mr hG b278 d_282 ea_282 k_282 (own_p 17 [.null, .ref x_300]) (1 : Int32) (2 : Int32) _ n0 (own_zO O) O f167 f170 t154_8 t154_9 f171 t154_11 f172 (by decide)) (by decide) (by decide) eT f167 hml rfl pd_9 rfl rfl rfl at_337 (by decide) (by decide)) rfl rfl fun T X eT => ?_
      refine o_iload X hx hB at_340 rfl ?_
      refine o_icmpYes X hx hB at_342 (Jvm.Free.XT.ii_eq_t (by decide : ((2 : Int32) - (1 : Int32)) = ((0 : Int32) + (1 : Int32)))) 347 ?_
      refine o_aload X hx hB at_347 rfl rfl ?_
      have f173 := t130_8.keep Kq154
      have z174 := own_ne2 (f125.keep Kq127).lt t130_11
      have z175 := own_ne2 t127_2.lt t130_11
      have f176 := t130_9.keep Kq154 (ninS (Ne.symm z175) (ninS (Ne.symm z174) nin0))
      have f177 := t130_10.keep Kq154 (ninS (Ne.symm z175) (ninS (Ne.symm z174) nin0))
      have f178 := (((((((((t11_0.ext E105).keep Kq109).ext E110).keep Kq114).keep Kq120).ext E121).keep Kq123).keep Kq127).keep Kq130).keep Kq154
      have z179 := own_ne1 t11_0.lt g105
      have z180 := own_ne1 ((t11_0.ext E105).keep Kq109).lt g110
      have z181 := own_ne1 (((((t11_0.ext E105).keep Kq109).ext E110).keep Kq114).keep Kq120).lt g121
      have z182 := own_ne2 ((((((t11_0.ext E105).keep Kq109).ext E110).keep Kq114).keep Kq120).ext E121).lt t123_8
      have z183 := own_ne2 ((((((t11_0.ext E105).keep Kq109).ext E110).keep Kq114).keep Kq120).ext E121).lt t123_7
      have f184 := (((((((((t11_2.ext E105).keep Kq109 (ninS z179 nin0)).ext E110).keep Kq114 (ninS z180 nin0)).keep Kq120 (ninS z179 nin0)).ext E121).keep Kq123 (ninS z181 nin0)).keep Kq127 (ninS z183 (ninS z182 nin0))).keep Kq130 (ninS z183 (ninS z182 nin0))).keep Kq154 (ninS z183 (ninS z182 nin0))
      have f185 := (((((((((t11_3.ext E105).keep Kq109 (ninS z179 nin0)).ext E110).keep Kq114 (ninS z180 nin0)).keep Kq120 (ninS z179 nin0)).ext E121).keep Kq123 (ninS z181 nin0)).keep Kq127 (ninS z183 (ninS z182 nin0))).keep Kq130 (ninS z183 (ninS z182 nin0))).keep Kq154 (ninS z183 (ninS z182 nin0))
      refine own_kQ (own_cvi X hx hZ hB (W := 0) hown (W 196 rfl) (W 197 rfl) (W 199 rfl) (W 198 rfl) (W 200 rfl) (W 70 rfl) (by decide) (rm_30_1e l Z a0 hw [] dc kd cr cc mr hG b278 d_282 ea_282 k_282 (own_p 17 [.null, .ref x_300]) (1 : Int32) (2 : Int32) x_300 pb b68 _ n0 (own_zO O) O f167 f170 t154_8 t154_9 f171 t154_11 f172 t154_13 f173 f176 f177 f178 f184 f185 g_d_282 g_ea_282 (by decide) ⟨by decide, by decide⟩ (by rfl) (own_mx pb) (by decide) (by decide)) (by decide) (by decide) eT f167 hml rfl pd_18 rfl rfl rfl at_349 (by decide) (by decide)) fun v T L186 hQ X => ?_
      obtain ⟨b_349, rfl, Nq186, Kq186, t186_0, t186_1, t186_2, t186_3, t186_4, t186_5, t186_6, t186_7, t186_8, t186_9, t186_10⟩ := hQ
      have g_b_349 := Nat.le_trans (own_zO O) t186_4
      have N := Fr.app N Nq186
      have O := O.keep Kq186 (allS g_d_282 (allS g_ea_282 all0))
      refine o_astore X hx hB #[.val (.long pa), .second, .val (.long pb), .second, .val (.long ps), .second, .val (.int fl), .val (.int (0 : Int32)), .val (.int (1 : Int32)), .val (.ref b28), .val (.ref b68), .val (.int (1 : Int32)), .val (.int (0 : Int32)), .val (.ref b128), .val (.ref b137), .val (.int ((0 : Int32) + (1 : Int32))), .val (.ref b278), .val (.ref b_318), .val (.ref b_349)] at_352 rfl rfl ?_
      refine o_aload X hx hB at_354 rfl rfl ?_
      refine o_aload X hx hB at_356 rfl rfl ?_
      have f187 := ((((((t114_0.keep Kq120).ext E121).keep Kq123).keep Kq127).keep Kq130).keep Kq154).keep Kq186
      have z188 := own_ne1 (t114_0.keep Kq120).lt g121
      have z189 := own_ne2 ((t114_0.keep Kq120).ext E121).lt t123_8
      have z190 := own_ne2 ((t114_0.keep Kq120).ext E121).lt t123_7
      have f191 := ((((((t114_2.keep Kq120 (ninS (Ne.symm z116) nin0)).ext E121).keep Kq123 (ninS z188 nin0)).keep Kq127 (ninS z190 (ninS z189 nin0))).keep Kq130 (ninS z190 (ninS z189 nin0))).keep Kq154 (ninS z190 (ninS z189 nin0))).keep Kq186 (ninS z190 (ninS z189 nin0))
      have f192 := ((((((t114_3.keep Kq120 (ninS (Ne.symm z116) nin0)).ext E121).keep Kq123 (ninS z188 nin0)).keep Kq127 (ninS z190 (ninS z189 nin0))).keep Kq130 (ninS z190 (ninS z189 nin0))).keep Kq154 (ninS z190 (ninS z189 nin0))).keep Kq186 (ninS z190 (ninS z189 nin0))
      refine own_kP (own_cst X hx hZ hB (W := 0) hown (W 184 rfl) (W 185 rfl) (W 187 rfl) (W 186 rfl) (by decide) (rm_28_0 l Z a0 hw [] dc kd cr cc mr hG b_349 b137 dc kd [] dc kd [] _ n0 (own_zO O) O t186_0 t186_2 t186_3 f187 f191 f192) (by decide) (by decide) rfl hml rfl pd_22 rfl rfl rfl at_358 (by decide) (by decide)) rfl rfl fun T X eT => ?_
      refine o_ifYes X hx hB at_361 (Jvm.Free.XT.i0_ne_t (by decide : ¬ ((1 : Int32) = 0))) 366 ?_
      refine o_aload X hx hB at_366 rfl rfl ?_
      have f193 := f167.keep Kq186
      have f194 := f170.keep Kq186 (ninS z169 (ninS z168 nin0))
      have f195 := own_castI (j := (2 : Int32)) (by decide) t186_7
      have f196 := own_castA (us := (own_p 17 [.null, .null])) (by rfl) t186_9
      refine own_kP (own_cvi X hx hZ hB (W := 0) hown (W 131 rfl) (W 132 rfl) (W 134 rfl) (W 133 rfl) (W 135 rfl) (W 70 rfl) (by decide) (rm_19 l Z a0 hw [] dc kd cr cc mr hG b278 d_282 ea_282 k_282 (own_p 17 [.null, .null]) (2 : Int32) (2 : Int32) _ n0 (own_zO O) O f193 f194 t186_5 t186_6 f195 t186_8 f196 (by decide)) (by decide) (by decide) eT f193 hml rfl pd_9 rfl rfl rfl at_368 (by decide) (by decide)) rfl rfl fun T X eT => ?_
      refine o_ifNo X hx hB at_371 (Jvm.Free.XT.i0_ne_f (by decide : ((2 : Int32) - (2 : Int32)) = 0)) ?_
      refine o_iconst X hx hB at_374 (1) ?_
      refine o_goto X hx hB at_375 379 ?_
      exact own_retN X hx (t := .boolean) Bd.returns (by simp) (hb hB at_379) (BodyLoose.notSynchronized Bd) (w := (1 : Int32)) rfl ⟨rfl, N⟩ (by decide) (by decide)
    · refine o_ifNo X hx hB at_118 (Jvm.Free.XT.ll_gt_f hPb) ?_
      refine o_iconst X hx hB at_121 (1) ?_
      refine o_goto X hx hB at_122 126 ?_
      refine o_istore X hx hB #[.val (.long pa), .second, .val (.long pb), .second, .val (.long ps), .second, .val (.int fl), .val (.int (0 : Int32)), .val (.int (1 : Int32)), .val (.ref b28), .val (.ref b68), .val (.int (1 : Int32)), .val (.int (1 : Int32)), .unset, .unset, .unset, .unset, .unset, .unset] at_126 rfl ?_
      refine o_new X hx hZ hB hown (W 0 rfl) (W 1 rfl) (W 2 rfl) rfl at_128 (by decide) (by decide) fun T h197 b128 g197 X eT E197 A197 D197 => ?_
      have g_b128 := own_gn O g197
      have O := O.ext E197
      refine o_dup X hx hB at_131 rfl ?_
      have f198 := D197 (Or.inl (W 22 rfl)) (ty := .int) (by decide)
      have f199 := D197 (Or.inl (W 25 rfl)) (ty := (.array (.object "java/lang/Object"))) (by decide)
      have f200 := D197 (Or.inl (W 45 rfl)) (ty := .int) (by decide)
      refine own_kQ (own_csp X hx hZ hB (W := 1) hown rfl (W 3 rfl) (W 4 rfl) (W 5 rfl) (W 2 rfl) (by decide) (rm_1 l Z a0 hw [] dc kd cr cc mr hG b128 (0 : Int32) (0 : Int32) _ n0 (own_zO O) O A197 f198 f199 f200 g_b128) (by decide) (by decide) eT hml rfl pd_0 rfl rfl rfl at_132 (by decide) (by decide)) fun v T L201 hQ X => ?_
      obtain ⟨rfl, Nq201, Kq201, t201_0, t201_1, t201_2, t201_3⟩ := hQ
      have N := Fr.app N Nq201
      have O := O.keep Kq201 (allS g_b128 all0)
      refine o_astore X hx hB #[.val (.long pa), .second, .val (.long pb), .second, .val (.long ps), .second, .val (.int fl), .val (.int (0 : Int32)), .val (.int (1 : Int32)), .val (.ref b28), .val (.ref b68), .val (.int (1 : Int32)), .val (.int (1 : Int32)), .val (.ref b128), .unset, .unset, .unset, .unset, .unset] at_135 rfl rfl ?_
      refine o_new X hx hZ hB hown (W 0 rfl) (W 1 rfl) (W 2 rfl) rfl at_137 (by decide) (by decide) fun T h202 b137 g202 X eT E202 A202 D202 => ?_
      have g_b137 := own_gn O g202
      have O := O.ext E202
      refine o_dup X hx hB at_140 rfl ?_
      have f203 := D202 (Or.inl (W 22 rfl)) (ty := .int) (by decide)
      have f204 := D202 (Or.inl (W 25 rfl)) (ty := (.array (.object "java/lang/Object"))) (by decide)
      have f205 := D202 (Or.inl (W 45 rfl)) (ty := .int) (by decide)
      refine own_kQ (own_csp X hx hZ hB (W := 1) hown rfl (W 3 rfl) (W 4 rfl) (W 5 rfl) (W 2 rfl) (by decide) (rm_1 l Z a0 hw [] dc kd cr cc mr hG b137 (0 : Int32) (0 : Int32) _ n0 (own_zO O) O A202 f203 f204 f205 g_b137) (by decide) (by decide) eT hml rfl pd_0 rfl rfl rfl at_141 (by decide) (by decide)) fun v T L206 hQ X => ?_
      obtain ⟨rfl, Nq206, Kq206, t206_0, t206_1, t206_2, t206_3⟩ := hQ
      have N := Fr.app N Nq206
      have O := O.keep Kq206 (allS g_b137 all0)
      refine o_astore X hx hB #[.val (.long pa), .second, .val (.long pb), .second, .val (.long ps), .second, .val (.int fl), .val (.int (0 : Int32)), .val (.int (1 : Int32)), .val (.ref b28), .val (.ref b68), .val (.int (1 : Int32)), .val (.int (1 : Int32)), .val (.ref b128), .val (.ref b137), .unset, .unset, .unset, .unset] at_144 rfl rfl ?_
      refine o_iload X hx hB at_146 rfl ?_
      refine o_ifNo X hx hB at_148 (Jvm.Free.XT.i0_eq_f (by decide : ¬ ((1 : Int32) = 0))) ?_
      refine o_aload X hx hB at_151 rfl rfl ?_
      refine o_bipush X hx hB at_153 (10) ?_
      refine own_kP (own_cst X hx hZ hB (W := 1) hown (W 26 rfl) (W 27 rfl) (W 29 rfl) (W 28 rfl) (by decide) (rm_5 l Z a0 hw [] dc kd cr cc mr hG (10 : Int32) i10 _ n0 (own_zO O) O (by decide) (by decide) hin10 hs10) (by decide) (by decide) rfl hml rfl pd_21 rfl rfl rfl at_155 (by decide) (by decide)) rfl rfl fun T X eT => ?_
      have f207 := (t201_0.ext E202).keep Kq206
      have z208 := own_ne1 t201_0.lt g202
      have f209 := (t201_1.ext E202).keep Kq206 (ninS z208 nin0)
      have f210 := (t201_2.ext E202).keep Kq206 (ninS z208 nin0)
      have f211 := (t201_3.ext E202).keep Kq206 (ninS z208 nin0)
      refine own_kQ (own_cif X hx hZ hB (W := 0) hown (W 33 rfl) (W 34 rfl) (W 35 rfl) (W 36 rfl) (W 37 rfl) (W 38 rfl) (W 39 rfl) (W 40 rfl) (W 41 rfl) (W 2 rfl) (by decide) (rm_6f l Z a0 hw [] dc kd cr cc mr hG b128 i10 (0 : Int32) _ n0 (own_zO O) O f207 f209 f210 f211 g_b128 hX10) (by decide) (by decide) eT f207 hml rfl pd_7 rfl rfl rfl at_158 (by decide) (by decide)) fun v T L212 hQ X => ?_
      obtain ⟨b_158, k_158, rfl, Nq212, Kq212, t212_0, t212_1, t212_2, t212_3, t212_4, t212_5, t212_6⟩ := hQ
      have g_b_158 := Nat.le_trans (own_zO O) t212_5
      have N := Fr.app N Nq212
      have O := O.keep Kq212 (allS g_b128 all0)
      refine o_pop X hx hB at_163 rfl ?_
      refine o_iload X hx hB at_164 rfl ?_
      refine o_ifYes X hx hB at_166 (Jvm.Free.XT.i0_eq_t (by decide : (0 : Int32) = 0)) 216 ?_
      refine o_iload X hx hB at_216 rfl ?_
      refine o_ifYes X hx hB at_218 (Jvm.Free.XT.i0_ne_t (by decide : ¬ ((1 : Int32) = 0))) 255 ?_
      refine o_iload X hx hB at_255 rfl ?_
      refine o_ifNo X hx hB at_257 (Jvm.Free.XT.i0_eq_f (by decide : ¬ ((1 : Int32) = 0))) ?_
      refine o_iconst X hx hB at_260 (0) ?_
      refine o_goto X hx hB at_261 265 ?_
      refine o_iload X hx hB at_265 rfl ?_
      refine o_ifNo X hx hB at_267 (Jvm.Free.XT.i0_eq_f (by decide : ¬ ((1 : Int32) = 0))) ?_
      refine o_iconst X hx hB at_270 (0) ?_
      refine o_goto X hx hB at_271 275 ?_
      refine o_iadd X hx hB at_275 ?_
      refine o_istore X hx hB #[.val (.long pa), .second, .val (.long pb), .second, .val (.long ps), .second, .val (.int fl), .val (.int (0 : Int32)), .val (.int (1 : Int32)), .val (.ref b28), .val (.ref b68), .val (.int (1 : Int32)), .val (.int (1 : Int32)), .val (.ref b128), .val (.ref b137), .val (.int ((0 : Int32) + (0 : Int32))), .unset, .unset, .unset] at_276 rfl ?_
      refine o_new X hx hZ hB hown (W 68 rfl) (W 69 rfl) (W 70 rfl) rfl at_278 (by decide) (by decide) fun T h213 b278 g213 X eT E213 A213 D213 => ?_
      have g_b278 := own_gn O g213
      have O := O.ext E213
      refine o_dup X hx hB at_281 rfl ?_
      have f214 := D213 (Or.inr (W 87 rfl)) (ty := (.object "java/util/Deque")) (by decide)
      refine own_kQ (own_csp X hx hZ hB (W := 1) hown rfl (W 71 rfl) (W 72 rfl) (W 73 rfl) (W 70 rfl) (by decide) (rm_11 l Z a0 hw [] dc kd cr cc mr hG b278 _ n0 (own_zO O) O A213 f214 g_b278) (by decide) (by decide) eT hml rfl pd_0 rfl rfl rfl at_282 (by decide) (by decide)) fun v T L215 hQ X => ?_
      obtain ⟨d_282, ea_282, k_282, rfl, Nq215, Kq215, t215_0, t215_1, t215_2, t215_3, t215_4, t215_5, t215_6, t215_7, t215_8⟩ := hQ
      have g_d_282 := Nat.le_trans (own_zO O) t215_7
      have g_ea_282 := Nat.le_trans (own_zO O) t215_8
      have N := Fr.app N Nq215
      have O := O.keep Kq215 (allS g_b278 all0)
      refine o_astore X hx hB #[.val (.long pa), .second, .val (.long pb), .second, .val (.long ps), .second, .val (.int fl), .val (.int (0 : Int32)), .val (.int (1 : Int32)), .val (.ref b28), .val (.ref b68), .val (.int (1 : Int32)), .val (.int (1 : Int32)), .val (.ref b128), .val (.ref b137), .val (.int ((0 : Int32) + (0 : Int32))), .val (.ref b278), .unset, .unset] at_285 rfl rfl ?_
      refine o_aload X hx hB at_287 rfl rfl ?_
      refine o_lloadN X hx hB at_289 rfl ?_
      refine o_aload X hx hB at_290 rfl rfl ?_
      have f216 := own_castA (us := (own_p 17 [])) (by rfl) t215_6
      have f217 := ((own_castA (us := (own_p 17 [])) (by rfl) t215_6)).2.2.2
      have z218 := Exa.ne t215_2 f217 (by decide)
      refine own_kQ (own_cvi X hx hZ hB (W := 0) hown (W 88 rfl) (W 89 rfl) (W 91 rfl) (W 90 rfl) (W 92 rfl) (W 70 rfl) (by decide) (rm_13 l Z a0 hw [] dc kd cr cc mr hG b278 pa b28 d_282 ea_282 k_282 (own_p 17 []) (0 : Int32) (0 : Int32) _ n0 (own_zO O) O t215_0 t215_1 t215_2 t215_3 t215_4 t215_5 f216 z218 g_d_282 g_ea_282 ⟨by decide, by decide⟩ (by decide) (by decide)) (by decide) (by decide) rfl t215_0 hml rfl pd_6 rfl rfl rfl at_292 (by decide) (by decide)) fun v T L219 hQ X => ?_
      obtain ⟨x_292, rfl, Nq219, Kq219, t219_0, t219_1, t219_2, t219_3, t219_4, t219_5, t219_6, t219_7, t219_8, t219_9, t219_10, t219_11⟩ := hQ
      have g_x_292 := Nat.le_trans (own_zO O) t219_11
      have N := Fr.app N Nq219
      have O := O.keep Kq219 (allS g_d_282 (allS g_ea_282 all0))
      refine o_aload X hx hB at_295 rfl rfl ?_
      refine o_lloadN X hx hB at_297 rfl ?_
      refine o_aload X hx hB at_298 rfl rfl ?_
      have f220 := own_castI (j := (1 : Int32)) (by decide) t219_5
      have f221 := own_castA (us := (own_p 17 [.ref x_292])) (by rfl) t219_6
      refine own_kQ (own_cvi X hx hZ hB (W := 0) hown (W 88 rfl) (W 89 rfl) (W 91 rfl) (W 90 rfl) (W 92 rfl) (W 70 rfl) (by decide) (rm_13 l Z a0 hw [] dc kd cr cc mr hG b278 pb b68 d_282 ea_282 k_282 (own_p 17 [.ref x_292]) (0 : Int32) (1 : Int32) _ n0 (own_zO O) O t219_0 t219_1 t219_2 t219_3 t219_4 f220 f221 t219_7 g_d_282 g_ea_282 ⟨by decide, by decide⟩ (by decide) (by decide)) (by decide) (by decide) rfl t219_0 hml rfl pd_6 rfl rfl rfl at_300 (by decide) (by decide)) fun v T L222 hQ X => ?_
      obtain ⟨x_300, rfl, Nq222, Kq222, t222_0, t222_1, t222_2, t222_3, t222_4, t222_5, t222_6, t222_7, t222_8, t222_9, t222_10, t222_11⟩ := hQ
      have g_x_300 := Nat.le_trans (own_zO O) t222_11
      have N := Fr.app N Nq222
      have O := O.keep Kq222 (allS g_d_282 (allS g_ea_282 all0))
      refine o_aload X hx hB at_303 rfl rfl ?_
      have f223 := own_castI (j := (2 : Int32)) (by decide) t222_5
      have f224 := own_castA (us := (own_p 17 [.ref x_292, .ref x_300])) (by rfl) t222_6
      refine own_kP (own_cvi X hx hZ hB (W := 0) hown (W 131 rfl) (W 132 rfl) (W 134 rfl) (W 133 rfl) (W 135 rfl) (W 70 rfl) (by decide) (rm_19 l Z a0 hw [] dc kd cr cc mr hG b278 d_282 ea_282 k_282 (own_p 17 [.ref x_292, .ref x_300]) (0 : Int32) (2 : Int32) _ n0 (own_zO O) O t222_0 t222_1 t222_2 t222_3 t222_4 f223 f224 (by decide)) (by decide) (by decide) rfl t222_0 hml rfl pd_9 rfl rfl rfl at_305 (by decide) (by decide)) rfl rfl fun T X eT => ?_
      refine o_iconst X hx hB at_308 (2) ?_
      refine o_icmpYes X hx hB at_309 (Jvm.Free.XT.ii_eq_t (by decide : ((2 : Int32) - (0 : Int32)) = (2 : Int32))) 314 ?_
      refine o_aload X hx hB at_314 rfl rfl ?_
      refine o_lload X hx hB at_316 rfl ?_
      have f225 := t219_8.keep Kq222
      have z226 := own_ne2 f217.lt t219_11
      have z227 := own_ne2 t215_2.lt t219_11
      have f228 := t219_9.keep Kq222 (ninS (Ne.symm z227) (ninS (Ne.symm z226) nin0))
      have f229 := t219_10.keep Kq222 (ninS (Ne.symm z227) (ninS (Ne.symm z226) nin0))
      have f230 := ((((((((((t6_0.ext E7).keep Kq11).ext E197).keep Kq201).ext E202).keep Kq206).keep Kq212).ext E213).keep Kq215).keep Kq219).keep Kq222
      have z231 := own_ne1 t6_0.lt g7
      have z232 := own_ne1 ((t6_0.ext E7).keep Kq11).lt g197
      have z233 := own_ne1 ((((t6_0.ext E7).keep Kq11).ext E197).keep Kq201).lt g202
      have z234 := own_ne1 (((((((t6_0.ext E7).keep Kq11).ext E197).keep Kq201).ext E202).keep Kq206).keep Kq212).lt g213
      have z235 := own_ne2 ((((((((t6_0.ext E7).keep Kq11).ext E197).keep Kq201).ext E202).keep Kq206).keep Kq212).ext E213).lt t215_8
      have z236 := own_ne2 ((((((((t6_0.ext E7).keep Kq11).ext E197).keep Kq201).ext E202).keep Kq206).keep Kq212).ext E213).lt t215_7
      have f237 := ((((((((((t6_2.ext E7).keep Kq11 (ninS z231 nin0)).ext E197).keep Kq201 (ninS z232 nin0)).ext E202).keep Kq206 (ninS z233 nin0)).keep Kq212 (ninS z232 nin0)).ext E213).keep Kq215 (ninS z234 nin0)).keep Kq219 (ninS z236 (ninS z235 nin0))).keep Kq222 (ninS z236 (ninS z235 nin0))
      have f238 := (((((((((((own_castI (j := (1 : Int32)) (by decide) t6_3).ext E7).keep Kq11 (ninS z231 nin0)).ext E197).keep Kq201 (ninS z232 nin0)).ext E202).keep Kq206 (ninS z233 nin0)).keep Kq212 (ninS z232 nin0)).ext E213).keep Kq215 (ninS z234 nin0)).keep Kq219 (ninS z236 (ninS z235 nin0))).keep Kq222 (ninS z236 (ninS z235 nin0))
      have z239 := own_ne1 ((own_castA (us := (own_p 10 [.ref i10])) (by rfl) t6_4)).2.2.2.lt g7
      have z240 := own_ne1 ((((own_castA (us := (own_p 10 [.ref i10])) (by rfl) t6_4)).2.2.2.ext E7).keep Kq11).lt g197
      have z241 := own_ne1 ((((((own_castA (us := (own_p 10 [.ref i10])) (by rfl) t6_4)).2.2.2.ext E7).keep Kq11).ext E197).keep Kq201).lt g202
      have z242 := own_ne1 (((((((((own_castA (us := (own_p 10 [.ref i10])) (by rfl) t6_4)).2.2.2.ext E7).keep Kq11).ext E197).keep Kq201).ext E202).keep Kq206).keep Kq212).lt g213
      have z243 := own_ne2 ((((((((((own_castA (us := (own_p 10 [.ref i10])) (by rfl) t6_4)).2.2.2.ext E7).keep Kq11).ext E197).keep Kq201).ext E202).keep Kq206).keep Kq212).ext E213).lt t215_8
      have z244 := own_ne2 ((((((((((own_castA (us := (own_p 10 [.ref i10])) (by rfl) t6_4)).2.2.2.ext E7).keep Kq11).ext E197).keep Kq201).ext E202).keep Kq206).keep Kq212).ext E213).lt t215_7
      have f245 := (((((((((((own_castA (us := (own_p 10 [.ref i10])) (by rfl) t6_4).ext E7).keep Kq11 (ninS z239 nin0)).ext E197).keep Kq201 (ninS z240 nin0)).ext E202).keep Kq206 (ninS z241 nin0)).keep Kq212 (ninS z240 nin0)).ext E213).keep Kq215 (ninS z242 nin0)).keep Kq219 (ninS z244 (ninS z243 nin0))).keep Kq222 (ninS z244 (ninS z243 nin0))
      have f246 := ((((((((t11_0.ext E197).keep Kq201).ext E202).keep Kq206).keep Kq212).ext E213).keep Kq215).keep Kq219).keep Kq222
      have z247 := own_ne1 t11_0.lt g197
      have z248 := own_ne1 ((t11_0.ext E197).keep Kq201).lt g202
      have z249 := own_ne1 (((((t11_0.ext E197).keep Kq201).ext E202).keep Kq206).keep Kq212).lt g213
      have z250 := own_ne2 ((((((t11_0.ext E197).keep Kq201).ext E202).keep Kq206).keep Kq212).ext E213).lt t215_8
      have z251 := own_ne2 ((((((t11_0.ext E197).keep Kq201).ext E202).keep Kq206).keep Kq212).ext E213).lt t215_7
      have f252 := ((((((((t11_2.ext E197).keep Kq201 (ninS z247 nin0)).ext E202).keep Kq206 (ninS z248 nin0)).keep Kq212 (ninS z247 nin0)).ext E213).keep Kq215 (ninS z249 nin0)).keep Kq219 (ninS z251 (ninS z250 nin0))).keep Kq222 (ninS z251 (ninS z250 nin0))
      have f253 := ((((((((t11_3.ext E197).keep Kq201 (ninS z247 nin0)).ext E202).keep Kq206 (ninS z248 nin0)).keep Kq212 (ninS z247 nin0)).ext E213).keep Kq215 (ninS z249 nin0)).keep Kq219 (ninS z251 (ninS z250 nin0))).keep Kq222 (ninS z251 (ninS z250 nin0))
      have z254 := own_ne2 t219_8.lt t222_11
      refine own_kQ (own_cvi X hx hZ hB (W := 0) hown (W 147 rfl) (W 148 rfl) (W 150 rfl) (W 149 rfl) (W 151 rfl) (W 70 rfl) (by decide) (rm_22_Ce l Z a0 hw [] dc kd cr cc mr hG b278 ps d_282 ea_282 k_282 (own_p 17 [.ref x_292, .ref x_300]) (0 : Int32) (2 : Int32) x_292 pa b28 b_44 (1 : Int32) k_44 (own_p 10 [.ref i10]) [Value.ref i10] x_300 pb b68 _ n0 (own_zO O) O t222_0 t222_1 t222_2 t222_3 t222_4 f223 f224 t222_7 f225 f228 f229 f230 f237 f238 f245 (Ne.symm z243) t222_8 t222_9 t222_10 f246 f252 f253 z254 g_d_282 g_ea_282 (by decide) ⟨by decide, by decide⟩ (by rfl) hPa (by decide) (by decide) (by decide) (by decide) (by decide) (by rfl) ⟨rfl, (own_cI hX10 own_nI)⟩ (by decide) (by decide) (by decide) (by decide) ⟨by decide, by decide⟩ (by rfl) hPb (by decide) (by decide)) (by decide) (by decide) eT t222_0 hml rfl pd_20 rfl rfl rfl at_318 (by decide) (by decide)) fun v T L255 hQ X => ?_
      obtain ⟨b_318, eb_318, ke0_318, rfl, Nq255, Kq255, t255_0, t255_1, t255_2, t255_3, t255_4, t255_5, t255_6, t255_7, t255_8, t255_9, t255_10, t255_11, t255_12, t255_13⟩ := hQ
      have g_b_318 := Nat.le_trans (own_zO O) t255_4
      have g_eb_318 := Nat.le_trans (own_zO O) t255_7
      have N := Fr.app N Nq255
      have O := O.keep Kq255 (allS g_d_282 (allS g_ea_282 all0))
      refine o_astore X hx hB #[.val (.long pa), .second, .val (.long pb), .second, .val (.long ps), .second, .val (.int fl), .val (.int (0 : Int32)), .val (.int (1 : Int32)), .val (.ref b28), .val (.ref b68), .val (.int (1 : Int32)), .val (.int (1 : Int32)), .val (.ref b128), .val (.ref b137), .val (.int ((0 : Int32) + (0 : Int32))), .val (.ref b278), .val (.ref b_318), .unset] at_321 rfl rfl ?_
      refine o_aload X hx hB at_323 rfl rfl ?_
      refine o_aload X hx hB at_325 rfl rfl ?_
      have f256 := own_castI (j := (1 : Int32)) (by decide) t255_3
      have f257 := own_castA (us := (own_p 10 [.ref i10])) (by rfl) t255_5
      have f258 := ((((t212_0.ext E213).keep Kq215).keep Kq219).keep Kq222).keep Kq255
      have z259 := own_ne1 t212_0.lt g213
      have z260 := own_ne2 (t212_0.ext E213).lt t215_8
      have z261 := own_ne2 (t212_0.ext E213).lt t215_7
      have f262 := ((((t212_2.ext E213).keep Kq215 (ninS z259 nin0)).keep Kq219 (ninS z261 (ninS z260 nin0))).keep Kq222 (ninS z261 (ninS z260 nin0))).keep Kq255 (ninS z261 (ninS z260 nin0))
      have f263 := (((((own_castI (j := (1 : Int32)) (by decide) t212_3).ext E213).keep Kq215 (ninS z259 nin0)).keep Kq219 (ninS z261 (ninS z260 nin0))).keep Kq222 (ninS z261 (ninS z260 nin0))).keep Kq255 (ninS z261 (ninS z260 nin0))
      have z264 := own_ne1 ((own_castA (us := (own_p 10 [.ref i10])) (by rfl) t212_4)).2.2.2.lt g213
      have z265 := own_ne2 (((own_castA (us := (own_p 10 [.ref i10])) (by rfl) t212_4)).2.2.2.ext E213).lt t215_8
      have z266 := own_ne2 (((own_castA (us := (own_p 10 [.ref i10])) (by rfl) t212_4)).2.2.2.ext E213).lt t215_7
      have f267 := (((((own_castA (us := (own_p 10 [.ref i10])) (by rfl) t212_4).ext E213).keep Kq215 (ninS z264 nin0)).keep Kq219 (ninS z266 (ninS z265 nin0))).keep Kq222 (ninS z266 (ninS z265 nin0))).keep Kq255 (ninS z266 (ninS z265 nin0))
      refine own_kP (own_cst X hx hZ hB (W := 0) hown (W 184 rfl) (W 185 rfl) (W 187 rfl) (W 186 rfl) (by decide) (rm_28_1 l Z a0 hw [] dc kd cr cc mr hG b_318 b128 eb_318 ke0_318 (own_p 10 [.ref i10]) b_158 k_158 (own_p 10 [.ref i10]) i10 vv10 _ n0 (own_zO O) O t255_0 t255_2 f256 f257 f258 f262 f263 f267 (hX10.ext O.2) (hV10.ext O.2) (by rfl) (by rfl)) (by decide) (by decide) rfl hml rfl pd_22 rfl rfl rfl at_327 (by decide) (by decide)) rfl rfl fun T X eT => ?_
      refine o_ifYes X hx hB at_330 (Jvm.Free.XT.i0_ne_t (by decide : ¬ ((1 : Int32) = 0))) 335 ?_
      refine o_aload X hx hB at_335 rfl rfl ?_
      have f268 := t222_0.keep Kq255
      have z269 := own_ne2 A213.lt t215_8
      have z270 := own_ne2 A213.lt t215_7
      have f271 := t222_1.keep Kq255 (ninS z270 (ninS z269 nin0))
      have f272 := own_castI (j := (2 : Int32)) (by decide) t255_10
      have f273 := own_castA (us := (own_p 17 [.null, .null])) (by rfl) t255_12
      refine own_kP (own_cvi X hx hZ hB (W := 0) hown (W 131 rfl) (W 132 rfl) (W 134 rfl) (W 133 rfl) (W 135 rfl) (W 70 rfl) (by decide) (rm_19 l Z a0 hw [] dc kd cr cc mr hG b278 d_282 ea_282 k_282 (own_p 17 [.null, .null]) (2 : Int32) (2 : Int32) _ n0 (own_zO O) O f268 f271 t255_8 t255_9 f272 t255_11 f273 (by decide)) (by decide) (by decide) eT f268 hml rfl pd_9 rfl rfl rfl at_337 (by decide) (by decide)) rfl rfl fun T X eT => ?_
      refine o_iload X hx hB at_340 rfl ?_
      refine o_icmpYes X hx hB at_342 (Jvm.Free.XT.ii_eq_t (by decide : ((2 : Int32) - (2 : Int32)) = ((0 : Int32) + (0 : Int32)))) 347 ?_
      refine o_aload X hx hB at_347 rfl rfl ?_
      refine own_kQ (own_cvi X hx hZ hB (W := 0) hown (W 196 rfl) (W 197 rfl) (W 199 rfl) (W 198 rfl) (W 200 rfl) (W 70 rfl) (by decide) (rm_30_0 l Z a0 hw [] dc kd cr cc mr hG b278 d_282 ea_282 k_282 (own_p 17 [.null, .null]) (2 : Int32) (2 : Int32) _ n0 (own_zO O) O f268 f271 t255_8 t255_9 f272 t255_11 f273 t255_13 (by decide)) (by decide) (by decide) eT f268 hml rfl pd_18 rfl rfl rfl at_349 (by decide) (by decide)) fun v T L274 hQ X => ?_
      obtain ⟨b_349, rfl, Nq274, Kq274, t274_0, t274_1, t274_2, t274_3, t274_4⟩ := hQ
      have g_b_349 := Nat.le_trans (own_zO O) t274_4
      have N := Fr.app N Nq274
      have O := O.keep Kq274 all0
      refine o_astore X hx hB #[.val (.long pa), .second, .val (.long pb), .second, .val (.long ps), .second, .val (.int fl), .val (.int (0 : Int32)), .val (.int (1 : Int32)), .val (.ref b28), .val (.ref b68), .val (.int (1 : Int32)), .val (.int (1 : Int32)), .val (.ref b128), .val (.ref b137), .val (.int ((0 : Int32) + (0 : Int32))), .val (.ref b278), .val (.ref b_318), .val (.ref b_349)] at_352 rfl rfl ?_
      refine o_aload X hx hB at_354 rfl rfl ?_
      refine o_aload X hx hB at_356 rfl rfl ?_
      have f275 := ((((((t206_0.keep Kq212).ext E213).keep Kq215).keep Kq219).keep Kq222).keep Kq255).keep Kq274
      have z276 := own_ne1 (t206_0.keep Kq212).lt g213
      have z277 := own_ne2 ((t206_0.keep Kq212).ext E213).lt t215_8
      have z278 := own_ne2 ((t206_0.keep Kq212).ext E213).lt t215_7
      have f279 := ((((((t206_2.keep Kq212 (ninS (Ne.symm z208) nin0)).ext E213).keep Kq215 (ninS z276 nin0)).keep Kq219 (ninS z278 (ninS z277 nin0))).keep Kq222 (ninS z278 (ninS z277 nin0))).keep Kq255 (ninS z278 (ninS z277 nin0))).keep Kq274 nin0
      have f280 := ((((((t206_3.keep Kq212 (ninS (Ne.symm z208) nin0)).ext E213).keep Kq215 (ninS z276 nin0)).keep Kq219 (ninS z278 (ninS z277 nin0))).keep Kq222 (ninS z278 (ninS z277 nin0))).keep Kq255 (ninS z278 (ninS z277 nin0))).keep Kq274 nin0
      refine own_kP (own_cst X hx hZ hB (W := 0) hown (W 184 rfl) (W 185 rfl) (W 187 rfl) (W 186 rfl) (by decide) (rm_28_0 l Z a0 hw [] dc kd cr cc mr hG b_349 b137 dc kd [] dc kd [] _ n0 (own_zO O) O t274_0 t274_2 t274_3 f275 f279 f280) (by decide) (by decide) rfl hml rfl pd_22 rfl rfl rfl at_358 (by decide) (by decide)) rfl rfl fun T X eT => ?_
      refine o_ifYes X hx hB at_361 (Jvm.Free.XT.i0_ne_t (by decide : ¬ ((1 : Int32) = 0))) 366 ?_
      refine o_aload X hx hB at_366 rfl rfl ?_
      have f281 := f268.keep Kq274
      have f282 := f271.keep Kq274 nin0
      have f283 := t255_8.keep Kq274
      have f284 := t255_9.keep Kq274 nin0
      have f285 := f272.keep Kq274 nin0
      have f286 := t255_11.keep Kq274 nin0
      have f287 := f273.keep Kq274 nin0
      refine own_kP (own_cvi X hx hZ hB (W := 0) hown (W 131 rfl) (W 132 rfl) (W 134 rfl) (W 133 rfl) (W 135 rfl) (W 70 rfl) (by decide) (rm_19 l Z a0 hw [] dc kd cr cc mr hG b278 d_282 ea_282 k_282 (own_p 17 [.null, .null]) (2 : Int32) (2 : Int32) _ n0 (own_zO O) O f281 f282 f283 f284 f285 f286 f287 (by decide)) (by decide) (by decide) eT f281 hml rfl pd_9 rfl rfl rfl at_368 (by decide) (by decide)) rfl rfl fun T X eT => ?_
      refine o_ifNo X hx hB at_371 (Jvm.Free.XT.i0_ne_f (by decide : ((2 : Int32) - (2 : Int32)) = 0)) ?_
      refine o_iconst X hx hB at_374 (1) ?_
      refine o_goto X hx hB at_375 379 ?_
      exact own_retN X hx (t := .boolean) Bd.returns (by simp) (hb hB at_379) (BodyLoose.notSynchronized Bd) (w := (1 : Int32)) rfl ⟨rfl, N⟩ (by decide) (by decide)
theorem ef_0_10 (m : MethodId) (pa : Int64) (pb : Int64) (ps : Int64) (fl : Int32) : entryFrame m #[(.long pa), (.long pb), (.long ps), (.int fl)] maxLocals = mkF m 0 #[.val (.long pa), .second, .val (.long pb), .second, .val (.long ps), .second, .val (.int fl), .unset, .unset, .unset, .unset, .unset, .unset, .unset, .unset, .unset, .unset, .unset, .unset] [] := by first | (simp [entryFrame, mkF, argsToLocals, Value.category, maxLocals]; done) | rfl
set_option maxRecDepth 65536 in
set_option maxHeartbeats 40000000 in
theorem rm_0_10 (l : Launch) (Z : State) (a0 : Array Value) (hw : own_Hw a0 Z) (ws : List Jvm.Cond) (dc : Addr) (kd : ClassId) (cr : Addr) (cc : Cell) (mr : Addr) (hG : own_G Z dc kd cr cc mr) (pa pb ps : Int64) (fl : Int32) (i10 i11 i20 : Addr) (vv10 vv11 vv20 : Int32) (h0 : Heap) (n0 : Nat) (Z0 : n0 ≤ h0.size) (hO : Old Z n0 h0) (hin10 : ¬ (((10 : Int32) + (128 : Int32)) < 0 ∨ cc.slots.size ≤ ((10 : Int32) + (128 : Int32)).toNatClampNeg)) (hs10 : cc.slots[((10 : Int32) + (128 : Int32)).toNatClampNeg]? = some (.ref i10)) (hX10 : Exa Z Z.heap i10 "java/lang/Integer") (hV10 : Fld Z Z.heap i10 "java/lang/Integer" "value" "I" (.int vv10)) (hin11 : ¬ (((11 : Int32) + (128 : Int32)) < 0 ∨ cc.slots.size ≤ ((11 : Int32) + (128 : Int32)).toNatClampNeg)) (hs11 : cc.slots[((11 : Int32) + (128 : Int32)).toNatClampNeg]? = some (.ref i11)) (hX11 : Exa Z Z.heap i11 "java/lang/Integer") (hV11 : Fld Z Z.heap i11 "java/lang/Integer" "value" "I" (.int vv11)) (hin20 : ¬ (((20 : Int32) + (128 : Int32)) < 0 ∨ cc.slots.size ≤ ((20 : Int32) + (128 : Int32)).toNatClampNeg)) (hs20 : cc.slots[((20 : Int32) + (128 : Int32)).toNatClampNeg]? = some (.ref i20)) (hX20 : Exa Z Z.heap i20 "java/lang/Integer") (hV20 : Fld Z Z.heap i20 "java/lang/Integer" "value" "I" (.int vv20)) (hT : ¬ ((fl &&& (1 : Int32)) = 0)) (hS : (fl &&& (2 : Int32)) = 0) :
    own_Met l x (Jvm.Cond.code x code maxLocals ret) ws room_1 #[(.long pa), (.long pb), (.long ps), (.int fl)] Z h0 (own_Ql (some (.int (1 : Int32))) n0) 48 320 := by
  refine MetFree.of_bodySF (plainFor_of_name pn_0) hisR ?_
  intro p e s m args below meth c T Bd hml0 hP hK
  obtain ⟨rfl, hZ, hh⟩ := hP
  obtain ⟨hx, hB⟩ := And.intro Bd.exec Bd.bytes
  have hml : c.maxLocals = 19 := hml0
  have hown : s.vm.findClass "com/example/sandpiper/sandpiper/broker/AwaitingSyncAddPinLaw" = some m.cls := findClass_of_methodNamed Bd.named
  have hnm := (name_of_methodNamed Bd.named Bd.method).1
  have X : Stand p l e room_1 s m #[(.long pa), (.long pb), (.long ps), (.int fl)] below meth c T [] 0 0 := Stand.of_body Bd
  have eT : T.heap = h0 := by rw [← hh, Bd.state]; rfl
  have W := @own_Wd a0 Z hw
  have N := Fr.nil n0
  have O := hO
  refine own_enter (ef_0_10 m pa pb ps fl) ?_
  show own_Goes _ _ _ _ (own_P s (own_Ql (some (.int (1 : Int32))) n0) 48 320)
  refine o_iload X hx hB at_0 rfl ?_
  refine o_iconst X hx hB at_2 (1) ?_
  refine o_iand X hx hB at_3 ?_
  refine o_ifNo X hx hB at_4 (Jvm.Free.XT.i0_eq_f hT) ?_
  refine o_iconst X hx hB at_7 (1) ?_
  refine o_goto X hx hB at_8 12 ?_
  refine o_istore X hx hB #[.val (.long pa), .second, .val (.long pb), .second, .val (.long ps), .second, .val (.int fl), .val (.int (1 : Int32)), .unset, .unset, .unset, .unset, .unset, .unset, .unset, .unset, .unset, .unset, .unset] at_12 rfl ?_
  refine o_iload X hx hB at_14 rfl ?_
  refine o_iconst X hx hB at_16 (2) ?_
  refine o_iand X hx hB at_17 ?_
  refine o_ifYes X hx hB at_18 (Jvm.Free.XT.i0_eq_t hS) 25 ?_
  refine o_iconst X hx hB at_25 (0) ?_
  refine o_istore X hx hB #[.val (.long pa), .second, .val (.long pb), .second, .val (.long ps), .second, .val (.int fl), .val (.int (1 : Int32)), .val (.int (0 : Int32)), .unset, .unset, .unset, .unset, .unset, .unset, .unset, .unset, .unset, .unset] at_26 rfl ?_
  refine o_new X hx hZ hB hown (W 0 rfl) (W 1 rfl) (W 2 rfl) eT at_28 (by decide) (by decide) fun T h1 b28 g1 X eT E1 A1 D1 => ?_
  have g_b28 := own_gn O g1
  have O := O.ext E1
  refine o_dup X hx hB at_31 rfl ?_
  have f2 := D1 (Or.inl (W 22 rfl)) (ty := .int) (by decide)
  have f3 := D1 (Or.inl (W 25 rfl)) (ty := (.array (.object "java/lang/Object"))) (by decide)
  have f4 := D1 (Or.inl (W 45 rfl)) (ty := .int) (by decide)
  refine own_kQ (own_csp X hx hZ hB (W := 1) hown rfl (W 3 rfl) (W 4 rfl) (W 5 rfl) (W 2 rfl) (by decide) (rm_1 l Z a0 hw [] dc kd cr cc mr hG b28 (0 : Int32) (0 : Int32) _ n0 (own_zO O) O A1 f2 f3 f4 g_b28) (by decide) (by decide) eT hml rfl pd_0 rfl rfl rfl at_32 (by decide) (by decide)) fun v T L5 hQ X => ?_
  obtain ⟨rfl, Nq5, Kq5, t5_0, t5_1, t5_2, t5_3⟩ := hQ
  have N := Fr.app N Nq5
  have O := O.keep Kq5 (allS g_b28 all0)
  refine o_astore X hx hB #[.val (.long pa), .second, .val (.long pb), .second, .val (.long ps), .second, .val (.int fl), .val (.int (1 : Int32)), .val (.int (0 : Int32)), .val (.ref b28), .unset, .unset, .unset, .unset, .unset, .unset, .unset, .unset, .unset] at_35 rfl rfl ?_
  refine o_aload X hx hB at_37 rfl rfl ?_
  refine o_bipush X hx hB at_39 (10) ?_
  refine own_kP (own_cst X hx hZ hB (W := 1) hown (W 26 rfl) (W 27 rfl) (W 29 rfl) (W 28 rfl) (by decide) (rm_5 l Z a0 hw [] dc kd cr cc mr hG (10 : Int32) i10 _ n0 (own_zO O) O (by decide) (by decide) hin10 hs10) (by decide) (by decide) rfl hml rfl pd_21 rfl rfl rfl at_41 (by decide) (by decide)) rfl rfl fun T X eT => ?_
  refine own_kQ (own_cif X hx hZ hB (W := 0) hown (W 33 rfl) (W 34 rfl) (W 35 rfl) (W 36 rfl) (W 37 rfl) (W 38 rfl) (W 39 rfl) (W 40 rfl) (W 41 rfl) (W 2 rfl) (by decide) (rm_6f l Z a0 hw [] dc kd cr cc mr hG b28 i10 (0 : Int32) _ n0 (own_zO O) O t5_0 t5_1 t5_2 t5_3 g_b28 hX10) (by decide) (by decide) eT t5_0 hml rfl pd_7 rfl rfl rfl at_44 (by decide) (by decide)) fun v T L6 hQ X => ?_
  obtain ⟨b_44, k_44, rfl, Nq6, Kq6, t6_0, t6_1, t6_2, t6_3, t6_4, t6_5, t6_6⟩ := hQ
  have g_b_44 := Nat.le_trans (own_zO O) t6_5
  have N := Fr.app N Nq6
  have O := O.keep Kq6 (allS g_b28 all0)
  refine o_pop X hx hB at_49 rfl ?_
  refine o_iload X hx hB at_50 rfl ?_
  refine o_ifNo X hx hB at_52 (Jvm.Free.XT.i0_eq_f (by decide : ¬ ((1 : Int32) = 0))) ?_
  refine o_aload X hx hB at_55 rfl rfl ?_
  refine o_bipush X hx hB at_57 (11) ?_
  refine own_kP (own_cst X hx hZ hB (W := 1) hown (W 26 rfl) (W 27 rfl) (W 29 rfl) (W 28 rfl) (by decide) (rm_5 l Z a0 hw [] dc kd cr cc mr hG (11 : Int32) i11 _ n0 (own_zO O) O (by decide) (by decide) hin11 hs11) (by decide) (by decide) rfl hml rfl pd_21 rfl rfl rfl at_59 (by decide) (by decide)) rfl rfl fun T X eT => ?_
  have f7 := own_castI (j := (1 : Int32)) (by decide) t6_1
  have f8 := own_castI (j := (1 : Int32)) (by decide) t6_3
  have f9 := own_castA (us := (own_p 10 [.ref i10])) (by rfl) t6_4
  refine own_kQ (own_cif X hx hZ hB (W := 0) hown (W 33 rfl) (W 34 rfl) (W 35 rfl) (W 36 rfl) (W 37 rfl) (W 38 rfl) (W 39 rfl) (W 40 rfl) (W 41 rfl) (W 2 rfl) (by decide) (rm_6r l Z a0 hw [] dc kd cr cc mr hG b28 i11 (1 : Int32) b_44 k_44 (own_p 10 [.ref i10]) (1 : Int32) _ n0 (own_zO O) O t6_0 f7 t6_2 f8 f9 t6_6 g_b28 g_b_44 ⟨by decide, by decide⟩ (by decide) hX11) (by decide) (by decide) eT t6_0 hml rfl pd_7 rfl rfl rfl at_62 (by decide) (by decide)) fun v T L10 hQ X => ?_
  obtain ⟨rfl, Nq10, Kq10, t10_0, t10_1, t10_2, t10_3, t10_4, t10_5⟩ := hQ
  have N := Fr.app N Nq10
  have O := O.keep Kq10 (allS g_b28 (allS g_b_44 all0))
  refine o_pop X hx hB at_67 rfl ?_
  refine o_new X hx hZ hB hown (W 0 rfl) (W 1 rfl) (W 2 rfl) rfl at_68 (by decide) (by decide) fun T h11 b68 g11 X eT E11 A11 D11 => ?_
  have g_b68 := own_gn O g11
  have O := O.ext E11
  refine o_dup X hx hB at_71 rfl ?_
  have f12 := D11 (Or.inl (W 22 rfl)) (ty := .int) (by decide)
  have f13 := D11 (Or.inl (W 25 rfl)) (ty := (.array (.object "java/lang/Object"))) (by decide)
  have f14 := D11 (Or.inl (W 45 rfl)) (ty := .int) (by decide)
  refine own_kQ (own_csp X hx hZ hB (W := 1) hown rfl (W 3 rfl) (W 4 rfl) (W 5 rfl) (W 2 rfl) (by decide) (rm_1 l Z a0 hw [] dc kd cr cc mr hG b68 (0 : Int32) (0 : Int32) _ n0 (own_zO O) O A11 f12 f13 f14 g_b68) (by decide) (by decide) eT hml rfl pd_0 rfl rfl rfl at_72 (by decide) (by decide)) fun v T L15 hQ X => ?_
  obtain ⟨rfl, Nq15, Kq15, t15_0, t15_1, t15_2, t15_3⟩ := hQ
  have N := Fr.app N Nq15
  have O := O.keep Kq15 (allS g_b68 all0)
  refine o_astore X hx hB #[.val (.long pa), .second, .val (.long pb), .second, .val (.long ps), .second, .val (.int fl), .val (.int (1 : Int32)), .val (.int (0 : Int32)), .val (.ref b28), .val (.ref b68), .unset, .unset, .unset, .unset, .unset, .unset, .unset, .unset] at_75 rfl rfl ?_
  refine o_iload X hx hB at_77 rfl ?_
  refine o_ifNo X hx hB at_79 (Jvm.Free.XT.i0_ne_f (by decide : (0 : Int32) = 0)) ?_
  refine o_aload X hx hB at_82 rfl rfl ?_
  refine o_bipush X hx hB at_84 (20) ?_
  refine own_kP (own_cst X hx hZ hB (W := 1) hown (W 26 rfl) (W 27 rfl) (W 29 rfl) (W 28 rfl) (by decide) (rm_5 l Z a0 hw [] dc kd cr cc mr hG (20 : Int32) i20 _ n0 (own_zO O) O (by decide) (by decide) hin20 hs20) (by decide) (by decide) rfl hml rfl pd_21 rfl rfl rfl at_86 (by decide) (by decide)) rfl rfl fun T X eT => ?_
  refine own_kQ (own_cif X hx hZ hB (W := 0) hown (W 33 rfl) (W 34 rfl) (W 35 rfl) (W 36 rfl) (W 37 rfl) (W 38 rfl) (W 39 rfl) (W 40 rfl) (W 41 rfl) (W 2 rfl) (by decide) (rm_6f l Z a0 hw [] dc kd cr cc mr hG b68 i20 (0 : Int32) _ n0 (own_zO O) O t15_0 t15_1 t15_2 t15_3 g_b68 hX20) (by decide) (by decide) eT t15_0 hml rfl pd_7 rfl rfl rfl at_89 (by decide) (by decide)) fun v T L16 hQ X => ?_
  obtain ⟨b_89, k_89, rfl, Nq16, Kq16, t16_0, t16_1, t16_2, t16_3, t16_4, t16_5, t16_6⟩ := hQ
  have g_b_89 := Nat.le_trans (own_zO O) t16_5
  have N := Fr.app N Nq16
  have O := O.keep Kq16 (allS g_b68 all0)
  refine o_pop X hx hB at_94 rfl ?_
  refine o_lloadN X hx hB at_95 rfl ?_
  refine o_lload X hx hB at_96 rfl ?_
  refine o_lcmp X hx hB at_98 ?_
  by_cases hPa : ps < pa
  · refine o_ifYes X hx hB at_99 (Jvm.Free.XT.ll_gt_t hPa) 106 ?_
    refine o_iconst X hx hB at_106 (0) ?_
    refine o_istore X hx hB #[.val (.long pa), .second, .val (.long pb), .second, .val (.long ps), .second, .val (.int fl), .val (.int (1 : Int32)), .val (.int (0 : Int32)), .val (.ref b28), .val (.ref b68), .val (.int (0 : Int32)), .unset, .unset, .unset, .unset, .unset, .unset, .unset] at_107 rfl ?_
    refine o_iload X hx hB at_109 rfl ?_
    refine o_ifYes X hx hB at_111 (Jvm.Free.XT.i0_eq_t (by decide : (0 : Int32) = 0)) 125 ?_
    refine o_iconst X hx hB at_125 (0) ?_
    refine o_istore X hx hB #[.val (.long pa), .second, .val (.long pb), .second, .val (.long ps), .second, .val (.int fl), .val (.int (1 : Int32)), .val (.int (0 : Int32)), .val (.ref b28), .val (.ref b68), .val (.int (0 : Int32)), .val (.int (0 : Int32)), .unset, .unset, .unset, .unset, .unset, .unset] at_126 rfl ?_
    refine o_new X hx hZ hB hown (W 0 rfl) (W 1 rfl) (W 2 rfl) rfl at_128 (by decide) (by decide) fun T h17 b128 g17 X eT E17 A17 D17 => ?_
    have g_b128 := own_gn O g17
    have O := O.ext E17
    refine o_dup X hx hB at_131 rfl ?_
    have f18 := D17 (Or.inl (W 22 rfl)) (ty := .int) (by decide)
    have f19 := D17 (Or.inl (W 25 rfl)) (ty := (.array (.object "java/lang/Object"))) (by decide)
    have f20 := D17 (Or.inl (W 45 rfl)) (ty := .int) (by decide)
    refine own_kQ (own_csp X hx hZ hB (W := 1) hown rfl (W 3 rfl) (W 4 rfl) (W 5 rfl) (W 2 rfl) (by decide) (rm_1 l Z a0 hw [] dc kd cr cc mr hG b128 (0 : Int32) (0 : Int32) _ n0 (own_zO O) O A17 f18 f19 f20 g_b128) (by decide) (by decide) eT hml rfl pd_0 rfl rfl rfl at_132 (by decide) (by decide)) fun v T L21 hQ X => ?_
    obtain ⟨rfl, Nq21, Kq21, t21_0, t21_1, t21_2, t21_3⟩ := hQ
    have N := Fr.app N Nq21
    have O := O.keep Kq21 (allS g_b128 all0)
    refine o_astore X hx hB #[.val (.long pa), .second, .val (.long pb), .second, .val (.long ps), .second, .val (.int fl), .val (.int (1 : Int32)), .val (.int (0 : Int32)), .val (.ref b28), .val (.ref b68), .val (.int (0 : Int32)), .val (.int (0 : Int32)), .val (.ref b128), .unset, .unset, .unset, .unset, .unset] at_135 rfl rfl ?_
    refine o_new X hx hZ hB hown (W 0 rfl) (W 1 rfl) (W 2 rfl) rfl at_137 (by decide) (by decide) fun T h22 b137 g22 X eT E22 A22 D22 => ?_
    have g_b137 := own_gn O g22
    have O := O.ext E22
    refine o_dup X hx hB at_140 rfl ?_
    have f23 := D22 (Or.inl (W 22 rfl)) (ty := .int) (by decide)
    have f24 := D22 (Or.inl (W 25 rfl)) (ty := (.array (.object "java/lang/Object"))) (by decide)
    have f25 := D22 (Or.inl (W 45 rfl)) (ty := .int) (by decide)
    refine own_kQ (own_csp X hx hZ hB (W := 1) hown rfl (W 3 rfl) (W 4 rfl) (W 5 rfl) (W 2 rfl) (by decide) (rm_1 l Z a0 hw [] dc kd cr cc mr hG b137 (0 : Int32) (0 : Int32) _ n0 (own_zO O) O A22 f23 f24 f25 g_b137) (by decide) (by decide) eT hml rfl pd_0 rfl rfl rfl at_141 (by decide) (by decide)) fun v T L26 hQ X => ?_
    obtain ⟨rfl, Nq26, Kq26, t26_0, t26_1, t26_2, t26_3⟩ := hQ
    have N := Fr.app N Nq26
    have O := O.keep Kq26 (allS g_b137 all0)
    refine o_astore X hx hB #[.val (.long pa), .second, .val (.long pb), .second, .val (.long ps), .second, .val (.int fl), .val (.int (1 : Int32)), .val (.int (0 : Int32)), .val (.ref b28), .val (.ref b68), .val (.int (0 : Int32)), .val (.int (0 : Int32)), .val (.ref b128), .val (.ref b137), .unset, .unset, .unset, .unset] at_144 rfl rfl ?_
    refine o_iload X hx hB at_146 rfl ?_
    refine o_ifYes X hx hB at_148 (Jvm.Free.XT.i0_eq_t (by decide : (0 : Int32) = 0)) 185 ?_
    refine o_aload X hx hB at_185 rfl rfl ?_
    refine o_bipush X hx hB at_187 (10) ?_
    refine own_kP (own_cst X hx hZ hB (W := 1) hown (W 26 rfl) (W 27 rfl) (W 29 rfl) (W 28 rfl) (by decide) (rm_5 l Z a0 hw [] dc kd cr cc mr hG (10 : Int32) i10 _ n0 (own_zO O) O (by decide) (by decide) hin10 hs10) (by decide) (by decide) rfl hml rfl pd_21 rfl rfl rfl at_189 (by decide) (by decide)) rfl rfl fun T X eT => ?_
    refine own_kQ (own_cif X hx hZ hB (W := 0) hown (W 33 rfl) (W 34 rfl) (W 35 rfl) (W 36 rfl) (W 37 rfl) (W 38 rfl) (W 39 rfl) (W 40 rfl) (W 41 rfl) (W 2 rfl) (by decide) (rm_6f l Z a0 hw [] dc kd cr cc mr hG b137 i10 (0 : Int32) _ n0 (own_zO O) O t26_0 t26_1 t26_2 t26_3 g_b137 hX10) (by decide) (by decide) eT t26_0 hml rfl pd_7 rfl rfl rfl at_192 (by decide) (by decide)) fun v T L27 hQ X => ?_
    obtain ⟨b_192, k_192, rfl, Nq27, Kq27, t27_0, t27_1, t27_2, t27_3, t27_4, t27_5, t27_6⟩ := hQ
    have g_b_192 := Nat.le_trans (own_zO O) t27_5
    have N := Fr.app N Nq27
    have O := O.keep Kq27 (allS g_b137 all0)
    refine o_pop X hx hB at_197 rfl ?_
    refine o_iload X hx hB at_198 rfl ?_
    refine o_ifNo X hx hB at_200 (Jvm.Free.XT.i0_eq_f (by decide : ¬ ((1 : Int32) = 0))) ?_
    refine o_aload X hx hB at_203 rfl rfl ?_
    refine o_bipush X hx hB at_205 (11) ?_
    refine own_kP (own_cst X hx hZ hB (W := 1) hown (W 26 rfl) (W 27 rfl) (W 29 rfl) (W 28 rfl) (by decide) (rm_5 l Z a0 hw [] dc kd cr cc mr hG (11 : Int32) i11 _ n0 (own_zO O) O (by decide) (by decide) hin11 hs11) (by decide) (by decide) rfl hml rfl pd_21 rfl rfl rfl at_207 (by decide) (by decide)) rfl rfl fun T X eT => ?_
    have f28 := own_castI (j := (1 : Int32)) (by decide) t27_1
    have f29 := own_castI (j := (1 : Int32)) (by decide) t27_3
    have f30 := own_castA (us := (own_p 10 [.ref i10])) (by rfl) t27_4
    refine own_kQ (own_cif X hx hZ hB (W := 0) hown (W 33 rfl) (W 34 rfl) (W 35 rfl) (W 36 rfl) (W 37 rfl) (W 38 rfl) (W 39 rfl) (W 40 rfl) (W 41 rfl) (W 2 rfl) (by decide) (rm_6r l Z a0 hw [] dc kd cr cc mr hG b137 i11 (1 : Int32) b_192 k_192 (own_p 10 [.ref i10]) (1 : Int32) _ n0 (own_zO O) O t27_0 f28 t27_2 f29 f30 t27_6 g_b137 g_b_192 ⟨by decide, by decide⟩ (by decide) hX11) (by decide) (by decide) eT t27_0 hml rfl pd_7 rfl rfl rfl at_210 (by decide) (by decide)) fun v T L31 hQ X => ?_
    obtain ⟨rfl, Nq31, Kq31, t31_0, t31_1, t31_2, t31_3, t31_4, t31_5⟩ := hQ
    have N := Fr.app N Nq31
    have O := O.keep Kq31 (allS g_b137 (allS g_b_192 all0))
    refine o_pop X hx hB at_215 rfl ?_
    refine o_iload X hx hB at_216 rfl ?_
    refine o_ifNo X hx hB at_218 (Jvm.Free.XT.i0_ne_f (by decide : (0 : Int32) = 0)) ?_
    refine o_iload X hx hB at_221 rfl ?_
    refine o_ifYes X hx hB at_223 (Jvm.Free.XT.i0_eq_t (by decide : (0 : Int32) = 0)) 242 ?_
    refine o_aload X hx hB at_242 rfl rfl ?_
    refine o_bipush X hx hB at_244 (20) ?_
    refine own_kP (own_cst X hx hZ hB (W := 1) hown (W 26 rfl) (W 27 rfl) (W 29 rfl) (W 28 rfl) (by decide) (rm_5 l Z a0 hw [] dc kd cr cc mr hG (20 : Int32) i20 _ n0 (own_zO O) O (by decide) (by decide) hin20 hs20) (by decide) (by decide) rfl hml rfl pd_21 rfl rfl rfl at_246 (by decide) (by decide)) rfl rfl fun T X eT => ?_
    have f32 := own_castI (j := (2 : Int32)) (by decide) t31_1
    have f33 := own_castI (j := (2 : Int32)) (by decide) t31_3
    have f34 := own_castA (us := (own_p 10 [.ref i10, .ref i11])) (by rfl) t31_4
    refine own_kQ (own_cif X hx hZ hB (W := 0) hown (W 33 rfl) (W 34 rfl) (W 35 rfl) (W 36 rfl) (W 37 rfl) (W 38 rfl) (W 39 rfl) (W 40 rfl) (W 41 rfl) (W 2 rfl) (by decide) (rm_6r l Z a0 hw [] dc kd cr cc mr hG b137 i20 (2 : Int32) b_192 k_192 (own_p 10 [.ref i10, .ref i11]) (2 : Int32) _ n0 (own_zO O) O t31_0 f32 t31_2 f33 f34 t31_5 g_b137 g_b_192 ⟨by decide, by decide⟩ (by decide) hX20) (by decide) (by decide) eT t31_0 hml rfl pd_7 rfl rfl rfl at_249 (by decide) (by decide)) fun v T L35 hQ X => ?_
    obtain ⟨rfl, Nq35, Kq35, t35_0, t35_1, t35_2, t35_3, t35_4, t35_5⟩ := hQ
    have N := Fr.app N Nq35
    have O := O.keep Kq35 (allS g_b137 (allS g_b_192 all0))
    refine o_pop X hx hB at_254 rfl ?_
    refine o_iload X hx hB at_255 rfl ?_
    refine o_ifYes X hx hB at_257 (Jvm.Free.XT.i0_eq_t (by decide : (0 : Int32) = 0)) 264 ?_
    refine o_iconst X hx hB at_264 (1) ?_
    refine o_iload X hx hB at_265 rfl ?_
    refine o_ifYes X hx hB at_267 (Jvm.Free.XT.i0_eq_t (by decide : (0 : Int32) = 0)) 274 ?_
    refine o_iconst X hx hB at_274 (1) ?_
    refine o_iadd X hx hB at_275 ?_
    refine o_istore X hx hB #[.val (.long pa), .second, .val (.long pb), .second, .val (.long ps), .second, .val (.int fl), .val (.int (1 : Int32)), .val (.int (0 : Int32)), .val (.ref b28), .val (.ref b68), .val (.int (0 : Int32)), .val (.int (0 : Int32)), .val (.ref b128), .val (.ref b137), .val (.int ((1 : Int32) + (1 : Int32))), .unset, .unset, .unset] at_276 rfl ?_
    refine o_new X hx hZ hB hown (W 68 rfl) (W 69 rfl) (W 70 rfl) rfl at_278 (by decide) (by decide) fun T h36 b278 g36 X eT E36 A36 D36 => ?_
    have g_b278 := own_gn O g36
    have O := O.ext E36
    refine o_dup X hx hB at_281 rfl ?_
    have f37 := D36 (Or.inr (W 87 rfl)) (ty := (.object "java/util/Deque")) (by decide)
    refine own_kQ (own_csp X hx hZ hB (W := 1) hown rfl (W 71 rfl) (W 72 rfl) (W 73 rfl) (W 70 rfl) (by decide) (rm_11 l Z a0 hw [] dc kd cr cc mr hG b278 _ n0 (own_zO O) O A36 f37 g_b278) (by decide) (by decide) eT hml rfl pd_0 rfl rfl rfl at_282 (by decide) (by decide)) fun v T L38 hQ X => ?_
    obtain ⟨d_282, ea_282, k_282, rfl, Nq38, Kq38, t38_0, t38_1, t38_2, t38_3, t38_4, t38_5, t38_6, t38_7, t38_8⟩ := hQ
    have g_d_282 := Nat.le_trans (own_zO O) t38_7
    have g_ea_282 := Nat.le_trans (own_zO O) t38_8
    have N := Fr.app N Nq38
    have O := O.keep Kq38 (allS g_b278 all0)
    refine o_astore X hx hB #[.val (.long pa), .second, .val (.long pb), .second, .val (.long ps), .second, .val (.int fl), .val (.int (1 : Int32)), .val (.int (0 : Int32)), .val (.ref b28), .val (.ref b68), .val (.int (0 : Int32)), .val (.int (0 : Int32)), .val (.ref b128), .val (.ref b137), .val (.int ((1 : Int32) + (1 : Int32))), .val (.ref b278), .unset, .unset] at_285 rfl rfl ?_
    refine o_aload X hx hB at_287 rfl rfl ?_
    refine o_lloadN X hx hB at_289 rfl ?_
    refine o_aload X hx hB at_290 rfl rfl ?_
    have f39 := own_castA (us := (own_p 17 [])) (by rfl) t38_6
    have f40 := ((own_castA (us := (own_p 17 [])) (by rfl) t38_6)).2.2.2
    have z41 := Exa.ne t38_2 f40 (by decide)
    refine own_kQ (own_cvi X hx hZ hB (W := 0) hown (W 88 rfl) (W 89 rfl) (W 91 rfl) (W 90 rfl) (W 92 rfl) (W 70 rfl) (by decide) (rm_13 l Z a0 hw [] dc kd cr cc mr hG b278 pa b28 d_282 ea_282 k_282 (own_p 17 []) (0 : Int32) (0 : Int32) _ n0 (own_zO O) O t38_0 t38_1 t38_2 t38_3 t38_4 t38_5 f39 z41 g_d_282 g_ea_282 ⟨by decide, by decide⟩ (by decide) (by decide)) (by decide) (by decide) rfl t38_0 hml rfl pd_6 rfl rfl rfl at_292 (by decide) (by decide)) fun v T L42 hQ X => ?_
    obtain ⟨x_292, rfl, Nq42, Kq42, t42_0, t42_1, t42_2, t42_3, t42_4, t42_5, t42_6, t42_7, t42_8, t42_9, t42_10, t42_11⟩ := hQ
    have g_x_292 := Nat.le_trans (own_zO O) t42_11
    have N := Fr.app N Nq42
    have O := O.keep Kq42 (allS g_d_282 (allS g_ea_282 all0))
    refine o_aload X hx hB at_295 rfl rfl ?_
    refine o_lloadN X hx hB at_297 rfl ?_
    refine o_aload X hx hB at_298 rfl rfl ?_
    have f43 := own_castI (j := (1 : Int32)) (by decide) t42_5
    have f44 := own_castA (us := (own_p 17 [.ref x_292])) (by rfl) t42_6
    refine own_kQ (own_cvi X hx hZ hB (W := 0) hown (W 88 rfl) (W 89 rfl) (W 91 rfl) (W 90 rfl) (W 92 rfl) (W 70 rfl) (by decide) (rm_13 l Z a0 hw [] dc kd cr cc mr hG b278 pb b68 d_282 ea_282 k_282 (own_p 17 [.ref x_292]) (0 : Int32) (1 : Int32) _ n0 (own_zO O) O t42_0 t42_1 t42_2 t42_3 t42_4 f43 f44 t42_7 g_d_282 g_ea_282 ⟨by decide, by decide⟩ (by decide) (by decide)) (by decide) (by decide) rfl t42_0 hml rfl pd_6 rfl rfl rfl at_300 (by decide) (by decide)) fun v T L45 hQ X => ?_
    obtain ⟨x_300, rfl, Nq45, Kq45, t45_0, t45_1, t45_2, t45_3, t45_4, t45_5, t45_6, t45_7, t45_8, t45_9, t45_10, t45_11⟩ := hQ
    have g_x_300 := Nat.le_trans (own_zO O) t45_11
    have N := Fr.app N Nq45
    have O := O.keep Kq45 (allS g_d_282 (allS g_ea_282 all0))
    refine o_aload X hx hB at_303 rfl rfl ?_
    have f46 := own_castI (j := (2 : Int32)) (by decide) t45_5
    have f47 := own_castA (us := (own_p 17 [.ref x_292, .ref x_300])) (by rfl) t45_6
    refine own_kP (own_cvi X hx hZ hB (W := 0) hown (W 131 rfl) (W 132 rfl) (W 134 rfl) (W 133 rfl) (W 135 rfl) (W 70 rfl) (by decide) (rm_19 l Z a0 hw [] dc kd cr cc mr hG b278 d_282 ea_282 k_282 (own_p 17 [.ref x_292, .ref x_300]) (0 : Int32) (2 : Int32) _ n0 (own_zO O) O t45_0 t45_1 t45_2 t45_3 t45_4 f46 f47 (by decide)) (by decide) (by decide) rfl t45_0 hml rfl pd_9 rfl rfl rfl at_305 (by decide) (by decide)) rfl rfl fun T X eT => ?_
    refine o_iconst X hx hB at_308 (2) ?_
    refine o_icmpYes X hx hB at_309 (Jvm.Free.XT.ii_eq_t (by decide : ((2 : Int32) - (0 : Int32)) = (2 : Int32))) 314 ?_
    refine o_aload X hx hB at_314 rfl rfl ?_
    refine o_lload X hx hB at_316 rfl ?_
    have f48 := t42_8.keep Kq45
    have z49 := own_ne2 f40.lt t42_11
    have z50 := own_ne2 t38_2.lt t42_11
    have f51 := t42_9.keep Kq45 (ninS (Ne.symm z50) (ninS (Ne.symm z49) nin0))
    have f52 := t42_10.keep Kq45 (ninS (Ne.symm z50) (ninS (Ne.symm z49) nin0))
    refine own_kQ (own_cvi X hx hZ hB (W := 0) hown (W 147 rfl) (W 148 rfl) (W 150 rfl) (W 149 rfl) (W 151 rfl) (W 70 rfl) (by decide) (rm_22_A l Z a0 hw [] dc kd cr cc mr hG b278 ps d_282 ea_282 k_282 (own_p 17 [.ref x_292, .ref x_300]) (0 : Int32) (2 : Int32) x_292 pa b28 _ n0 (own_zO O) O t45_0 t45_1 t45_2 t45_3 t45_4 f46 f47 t45_7 f48 f51 f52 (by decide) ⟨by decide, by decide⟩ (by rfl) hPa) (by decide) (by decide) eT t45_0 hml rfl pd_20 rfl rfl rfl at_318 (by decide) (by decide)) fun v T L53 hQ X => ?_
    obtain ⟨b_318, rfl, Nq53, Kq53, t53_0, t53_1, t53_2, t53_3, t53_4⟩ := hQ
    have g_b_318 := Nat.le_trans (own_zO O) t53_4
    have N := Fr.app N Nq53
    have O := O.keep Kq53 all0
    refine o_astore X hx hB #[.val (.long pa), .second, .val (.long pb), .second, .val (.long ps), .second, .val (.int fl), .val (.int (1 : Int32)), .val (.int (0 : Int32)), .val (.ref b28), .val (.ref b68), .val (.int (0 : Int32)), .val (.int (0 : Int32)), .val (.ref b128), .val (.ref b137), .val (.int ((1 : Int32) + (1 : Int32))), .val (.ref b278), .val (.ref b_318), .unset] at_321 rfl rfl ?_
    refine o_aload X hx hB at_323 rfl rfl ?_
    refine o_aload X hx hB at_325 rfl rfl ?_
    have f54 := (((((((((t21_0.ext E22).keep Kq26).keep Kq27).keep Kq31).keep Kq35).ext E36).keep Kq38).keep Kq42).keep Kq45).keep Kq53
    have z55 := own_ne1 t21_0.lt g22
    have z56 := own_ne2 ((t21_0.ext E22).keep Kq26).lt t27_5
    have z57 := own_ne1 (((((t21_0.ext E22).keep Kq26).keep Kq27).keep Kq31).keep Kq35).lt g36
    have z58 := own_ne2 ((((((t21_0.ext E22).keep Kq26).keep Kq27).keep Kq31).keep Kq35).ext E36).lt t38_8
    have z59 := own_ne2 ((((((t21_0.ext E22).keep Kq26).keep Kq27).keep Kq31).keep Kq35).ext E36).lt t38_7
    have f60 := (((((((((t21_2.ext E22).keep Kq26 (ninS z55 nin0)).keep Kq27 (ninS z55 nin0)).keep Kq31 (ninS z55 (ninS z56 nin0))).keep Kq35 (ninS z55 (ninS z56 nin0))).ext E36).keep Kq38 (ninS z57 nin0)).keep Kq42 (ninS z59 (ninS z58 nin0))).keep Kq45 (ninS z59 (ninS z58 nin0))).keep Kq53 nin0
    have f61 := (((((((((t21_3.ext E22).keep Kq26 (ninS z55 nin0)).keep Kq27 (ninS z55 nin0)).keep Kq31 (ninS z55 (ninS z56 nin0))).keep Kq35 (ninS z55 (ninS z56 nin0))).ext E36).keep Kq38 (ninS z57 nin0)).keep Kq42 (ninS z59 (ninS z58 nin0))).keep Kq45 (ninS z59 (ninS z58 nin0))).keep Kq53 nin0
    refine own_kP (own_cst X hx hZ hB (W := 0) hown (W 184 rfl) (W 185 rfl) (W 187 rfl) (W 186 rfl) (by decide) (rm_28_0 l Z a0 hw [] dc kd cr cc mr hG b_318 b128 dc kd [] dc kd [] _ n0 (own_zO O) O t53_0 t53_2 t53_3 f54 f60 f61) (by decide) (by decide) rfl hml rfl pd_22 rfl rfl rfl at_327 (by decide) (by decide)) rfl rfl fun T X eT => ?_
    refine o_ifYes X hx hB at_330 (Jvm.Free.XT.i0_ne_t (by decide : ¬ ((1 : Int32) = 0))) 335 ?_
    refine o_aload X hx hB at_335 rfl rfl ?_
    have f62 := t45_0.keep Kq53
    have f63 := t45_1.keep Kq53 nin0
    have f64 := t45_2.keep Kq53
    have f65 := t45_3.keep Kq53 nin0
    have f66 := t45_4.keep Kq53 nin0
    have f67 := f46.keep Kq53 nin0
    have f68 := f47.keep Kq53 nin0
    refine own_kP (own_cvi X hx hZ hB (W := 0) hown (W 131 rfl) (W 132 rfl) (W 134 rfl) (W 133 rfl) (W 135 rfl) (W 70 rfl) (by decide) (rm_19 l Z a0 hw [] dc kd cr cc mr hG b278 d_282 ea_282 k_282 (own_p 17 [.ref x_292, .ref x_300]) (0 : Int32) (2 : Int32) _ n0 (own_zO O) O f62 f63 f64 f65 f66 f67 f68 (by decide)) (by decide) (by decide) eT f62 hml rfl pd_9 rfl rfl rfl at_337 (by decide) (by decide)) rfl rfl fun T X eT => ?_
    refine o_iload X hx hB at_340 rfl ?_
    refine o_icmpYes X hx hB at_342 (Jvm.Free.XT.ii_eq_t (by decide : ((2 : Int32) - (0 : Int32)) = ((1 : Int32) + (1 : Int32)))) 347 ?_
    refine o_aload X hx hB at_347 rfl rfl ?_
    have f69 := f48.keep Kq53
    have f70 := f51.keep Kq53 nin0
    have f71 := f52.keep Kq53 nin0
    have f72 := ((((((((((((((t10_0.ext E11).keep Kq15).keep Kq16).ext E17).keep Kq21).ext E22).keep Kq26).keep Kq27).keep Kq31).keep Kq35).ext E36).keep Kq38).keep Kq42).keep Kq45).keep Kq53
    have z73 := own_ne1 t10_0.lt g11
    have z74 := own_ne1 (((t10_0.ext E11).keep Kq15).keep Kq16).lt g17
    have z75 := own_ne1 (((((t10_0.ext E11).keep Kq15).keep Kq16).ext E17).keep Kq21).lt g22
    have z76 := own_ne2 (((((((t10_0.ext E11).keep Kq15).keep Kq16).ext E17).keep Kq21).ext E22).keep Kq26).lt t27_5
    have z77 := own_ne1 ((((((((((t10_0.ext E11).keep Kq15).keep Kq16).ext E17).keep Kq21).ext E22).keep Kq26).keep Kq27).keep Kq31).keep Kq35).lt g36
    have z78 := own_ne2 (((((((((((t10_0.ext E11).keep Kq15).keep Kq16).ext E17).keep Kq21).ext E22).keep Kq26).keep Kq27).keep Kq31).keep Kq35).ext E36).lt t38_8
    have z79 := own_ne2 (((((((((((t10_0.ext E11).keep Kq15).keep Kq16).ext E17).keep Kq21).ext E22).keep Kq26).keep Kq27).keep Kq31).keep Kq35).ext E36).lt t38_7
    have f80 := ((((((((((((((t10_2.ext E11).keep Kq15 (ninS z73 nin0)).keep Kq16 (ninS z73 nin0)).ext E17).keep Kq21 (ninS z74 nin0)).ext E22).keep Kq26 (ninS z75 nin0)).keep Kq27 (ninS z75 nin0)).keep Kq31 (ninS z75 (ninS z76 nin0))).keep Kq35 (ninS z75 (ninS z76 nin0))).ext E36).keep Kq38 (ninS z77 nin0)).keep Kq42 (ninS z79 (ninS z78 nin0))).keep Kq45 (ninS z79 (ninS z78 nin0))).keep Kq53 nin0
    have f81 := (((((((((((((((own_castI (j := (2 : Int32)) (by decide) t10_3).ext E11).keep Kq15 (ninS z73 nin0)).keep Kq16 (ninS z73 nin0)).ext E17).keep Kq21 (ninS z74 nin0)).ext E22).keep Kq26 (ninS z75 nin0)).keep Kq27 (ninS z75 nin0)).keep Kq31 (ninS z75 (ninS z76 nin0))).keep Kq35 (ninS z75 (ninS z76 nin0))).ext E36).keep Kq38 (ninS z77 nin0)).keep Kq42 (ninS z79 (ninS z78 nin0))).keep Kq45 (ninS z79 (ninS z78 nin0))).keep Kq53 nin0
    have z82 := own_ne1 (((own_castA (us := (own_p 10 [.ref i10])) (by rfl) t6_4)).2.2.2.keep Kq10).lt g11
    have z83 := own_ne1 ((((((own_castA (us := (own_p 10 [.ref i10])) (by rfl) t6_4)).2.2.2.keep Kq10).ext E11).keep Kq15).keep Kq16).lt g17
    have z84 := own_ne1 ((((((((own_castA (us := (own_p 10 [.ref i10])) (by rfl) t6_4)).2.2.2.keep Kq10).ext E11).keep Kq15).keep Kq16).ext E17).keep Kq21).lt g22
    have z85 := own_ne2 ((((((((((own_castA (us := (own_p 10 [.ref i10])) (by rfl) t6_4)).2.2.2.keep Kq10).ext E11).keep Kq15).keep Kq16).ext E17).keep Kq21).ext E22).keep Kq26).lt t27_5
    have z86 := own_ne1 (((((((((((((own_castA (us := (own_p 10 [.ref i10])) (by rfl) t6_4)).2.2.2.keep Kq10).ext E11).keep Kq15).keep Kq16).ext E17).keep Kq21).ext E22).keep Kq26).keep Kq27).keep Kq31).keep Kq35).lt g36
    have z87 := own_ne2 ((((((((((((((own_castA (us := (own_p 10 [.ref i10])) (by rfl) t6_4)).2.2.2.keep Kq10).ext E11).keep Kq15).keep Kq16).ext E17).keep Kq21).ext E22).keep Kq26).keep Kq27).keep Kq31).keep Kq35).ext E36).lt t38_8
    have z88 := own_ne2 ((((((((((((((own_castA (us := (own_p 10 [.ref i10])) (by rfl) t6_4)).2.2.2.keep Kq10).ext E11).keep Kq15).keep Kq16).ext E17).keep Kq21).ext E22).keep Kq26).keep Kq27).keep Kq31).keep Kq35).ext E36).lt t38_7
    have f89 := (((((((((((((((own_castA (us := (own_p 10 [.ref i10, .ref i11])) (by rfl) t10_4).ext E11).keep Kq15 (ninS z82 nin0)).keep Kq16 (ninS z82 nin0)).ext E17).keep Kq21 (ninS z83 nin0)).ext E22).keep Kq26 (ninS z84 nin0)).keep Kq27 (ninS z84 nin0)).keep Kq31 (ninS z84 (ninS z85 nin0))).keep Kq35 (ninS z84 (ninS z85 nin0))).ext E36).keep Kq38 (ninS z86 nin0)).keep Kq42 (ninS z88 (ninS z87 nin0))).keep Kq45 (ninS z88 (ninS z87 nin0))).keep Kq53 nin0
    have f90 := t45_8.keep Kq53
    have f91 := t45_9.keep Kq53 nin0
    have f92 := t45_10.keep Kq53 nin0
    have f93 := (((((((((((t16_0.ext E17).keep Kq21).ext E22).keep Kq26).keep Kq27).keep Kq31).keep Kq35).ext E36).keep Kq38).keep Kq42).keep Kq45).keep Kq53
    have z94 := own_ne1 t16_0.lt g17
    have z95 := own_ne1 ((t16_0.ext E17).keep Kq21).lt g22
    have z96 := own_ne2 ((((t16_0.ext E17).keep Kq21).ext E22).keep Kq26).lt t27_5
    have z97 := own_ne1 (((((((t16_0.ext E17).keep Kq21).ext E22).keep Kq26).keep Kq27).keep Kq31).keep Kq35).lt g36
    have z98 := own_ne2 ((((((((t16_0.ext E17).keep Kq21).ext E22).keep Kq26).keep Kq27).keep Kq31).keep Kq35).ext E36).lt t38_8
    have z99 := own_ne2 ((((((((t16_0.ext E17).keep Kq21).ext E22).keep Kq26).keep Kq27).keep Kq31).keep Kq35).ext E36).lt t38_7
    have f100 := (((((((((((t16_2.ext E17).keep Kq21 (ninS z94 nin0)).ext E22).keep Kq26 (ninS z95 nin0)).keep Kq27 (ninS z95 nin0)).keep Kq31 (ninS z95 (ninS z96 nin0))).keep Kq35 (ninS z95 (ninS z96 nin0))).ext E36).keep Kq38 (ninS z97 nin0)).keep Kq42 (ninS z99 (ninS z98 nin0))).keep Kq45 (ninS z99 (ninS z98 nin0))).keep Kq53 nin0
    have f101 := ((((((((((((own_castI (j := (1 : Int32)) (by decide) t16_3).ext E17).keep Kq21 (ninS z94 nin0)).ext E22).keep Kq26 (ninS z95 nin0)).keep Kq27 (ninS z95 nin0)).keep Kq31 (ninS z95 (ninS z96 nin0))).keep Kq35 (ninS z95 (ninS z96 nin0))).ext E36).keep Kq38 (ninS z97 nin0)).keep Kq42 (ninS z99 (ninS z98 nin0))).keep Kq45 (ninS z99 (ninS z98 nin0))).keep Kq53 nin0
    have z102 := own_ne1 ((own_castA (us := (own_p 10 [.ref i20])) (by rfl) t16_4)).2.2.2.lt g17
    have z103 := own_ne1 ((((own_castA (us := (own_p 10 [.ref i20])) (by rfl) t16_4)).2.2.2.ext E17).keep Kq21).lt g22
    have z104 := own_ne2 ((((((own_castA (us := (own_p 10 [.ref i20])) (by rfl) t16_4)).2.2.2.ext E17).keep Kq21).ext E22).keep Kq26).lt t27_5
    have z105 := own_ne1 (((((((((own_castA (us := (own_p 10 [.ref i20])) (by rfl) t16_4)).2.2.2.ext E17).keep Kq21).ext E22).keep Kq26).keep Kq27).keep Kq31).keep Kq35).lt g36
    have z106 := own_ne2 ((((((((((own_castA (us := (own_p 10 [.ref i20])) (by rfl) t16_4)).2.2.2.ext E17).keep Kq21).ext E22).keep Kq26).keep Kq27).keep Kq31).keep Kq35).ext E36).lt t38_8
    have z107 := own_ne2 ((((((((((own_castA (us := (own_p 10 [.ref i20])) (by rfl) t16_4)).2.2.2.ext E17).keep Kq21).ext E22).keep Kq26).keep Kq27).keep Kq31).keep Kq35).ext E36).lt t38_7
    have f108 := ((((((((((((own_castA (us := (own_p 10 [.ref i20])) (by rfl) t16_4).ext E17).keep Kq21 (ninS z102 nin0)).ext E22).keep Kq26 (ninS z103 nin0)).keep Kq27 (ninS z103 nin0)).keep Kq31 (ninS z103 (ninS z104 nin0))).keep Kq35 (ninS z103 (ninS z104 nin0))).ext E36).keep Kq38 (ninS z105 nin0)).keep Kq42 (ninS z107 (ninS z106 nin0))).keep Kq45 (ninS z107 (ninS z106 nin0))).keep Kq53 nin0
    have z109 := own_ne2 t42_8.lt t45_11
    refine own_kQ (own_cvi X hx hZ hB (W := 0) hown (W 196 rfl) (W 197 rfl) (W 199 rfl) (W 198 rfl) (W 200 rfl) (W 70 rfl) (by decide) (rm_30_Cr l Z a0 hw [] dc kd cr cc mr hG b278 d_282 ea_282 k_282 (own_p 17 [.ref x_292, .ref x_300]) (0 : Int32) (2 : Int32) x_292 pa b28 b_44 (2 : Int32) k_44 (own_p 10 [.ref i10, .ref i11]) [Value.ref i10, Value.ref i11] x_300 pb b68 b_89 (1 : Int32) k_89 (own_p 10 [.ref i20]) [Value.ref i20] _ n0 (own_zO O) O f62 f63 f64 f65 f66 f67 f68 t45_7 f69 f70 f71 f72 f80 f81 f89 (Ne.symm z87) f90 f91 f92 f93 f100 f101 f108 (Ne.symm z106) z109 g_d_282 g_ea_282 (by decide) ⟨by decide, by decide⟩ (by rfl) (own_mx pa) (by decide) (by decide) (by decide) (by decide) (by decide) (by rfl) ⟨rfl, (own_cI hX10 (own_cI hX11 own_nI))⟩ (by decide) (by decide) (by decide) (by decide) ⟨by decide, by decide⟩ (by rfl) (own_mx pb) (by decide) (by decide) (by decide) (by decide) (by decide) (by rfl) ⟨rfl, (own_cI hX20 own_nI)⟩ (by decide) (by decide) (by decide) (by decide) (by decide)) (by decide) (by decide) eT f62 hml rfl pd_18 rfl rfl rfl at_349 (by decide) (by decide)) fun v T L110 hQ X => ?_
    obtain ⟨b_349, eb_349, ke0_349, rfl, Nq110, Kq110, t110_0, t110_1, t110_2, t110_3, t110_4, t110_5, t110_6, t110_7, t110_8, t110_9, t110_10, t110_11, t110_12, t110_13⟩ := hQ
    have g_b_349 := Nat.le_trans (own_zO O) t110_4
    have g_eb_349 := Nat.le_trans (own_zO O) t110_7
    have N := Fr.app N Nq110
    have O := O.keep Kq110 (allS g_d_282 (allS g_ea_282 all0))
    refine o_astore X hx hB #[.val (.long pa), .second, .val (.long pb), .second, .val (.long ps), .second, .val (.int fl), .val (.int (1 : Int32)), .val (.int (0 : Int32)), .val (.ref b28), .val (.ref b68), .val (.int (0 : Int32)), .val (.int (0 : Int32)), .val (.ref b128), .val (.ref b137), .val (.int ((1 : Int32) + (1 : Int32))), .val (.ref b278), .val (.ref b_318), .val (.ref b_349)] at_352 rfl rfl ?_
    refine o_aload X hx hB at_354 rfl rfl ?_
    refine o_aload X hx hB at_356 rfl rfl ?_
    have f111 := own_castI (j := (3 : Int32)) (by decide) t110_3
    have f112 := own_castA (us := (own_p 10 [.ref i10, .ref i11, .ref i20])) (by rfl) t110_5
    have f113 := (((((t35_0.ext E36).keep Kq38).keep Kq42).keep Kq45).keep Kq53).keep Kq110
    have z114 := own_ne1 t35_0.lt g36
    have z115 := own_ne2 (t35_0.ext E36).lt t38_8
    have z116 := own_ne2 (t35_0.ext E36).lt t38_7
    have f117 := (((((t35_2.ext E36).keep Kq38 (ninS z114 nin0)).keep Kq42 (ninS z116 (ninS z115 nin0))).keep Kq45 (ninS z116 (ninS z115 nin0))).keep Kq53 nin0).keep Kq110 (ninS z116 (ninS z115 nin0))
    have f118 := ((((((own_castI (j := (3 : Int32)) (by decide) t35_3).ext E36).keep Kq38 (ninS z114 nin0)).keep Kq42 (ninS z116 (ninS z115 nin0))).keep Kq45 (ninS z116 (ninS z115 nin0))).keep Kq53 nin0).keep Kq110 (ninS z116 (ninS z115 nin0))
    have z119 := own_ne1 ((((own_castA (us := (own_p 10 [.ref i10])) (by rfl) t27_4)).2.2.2.keep Kq31).keep Kq35).lt g36
    have z120 := own_ne2 (((((own_castA (us := (own_p 10 [.ref i10])) (by rfl) t27_4)).2.2.2.keep Kq31).keep Kq35).ext E36).lt t38_8
    have z121 := own_ne2 (((((own_castA (us := (own_p 10 [.ref i10])) (by rfl) t27_4)).2.2.2.keep Kq31).keep Kq35).ext E36).lt t38_7
    have f122 := ((((((own_castA (us := (own_p 10 [.ref i10, .ref i11, .ref i20])) (by rfl) t35_4).ext E36).keep Kq38 (ninS z119 nin0)).keep Kq42 (ninS z121 (ninS z120 nin0))).keep Kq45 (ninS z121 (ninS z120 nin0))).keep Kq53 nin0).keep Kq110 (ninS z121 (ninS z120 nin0))
    refine own_kP (own_cst X hx hZ hB (W := 0) hown (W 184 rfl) (W 185 rfl) (W 187 rfl) (W 186 rfl) (by decide) (rm_28_3 l Z a0 hw [] dc kd cr cc mr hG b_349 b137 eb_349 ke0_349 (own_p 10 [.ref i10, .ref i11, .ref i20]) b_192 k_192 (own_p 10 [.ref i10, .ref i11, .ref i20]) i10 vv10 i11 vv11 i20 vv20 _ n0 (own_zO O) O t110_0 t110_2 f111 f112 f113 f117 f118 f122 (hX10.ext O.2) (hV10.ext O.2) (hX11.ext O.2) (hV11.ext O.2) (hX20.ext O.2) (hV20.ext O.2) (by rfl) (by rfl) (by rfl) (by rfl) (by rfl) (by rfl)) (by decide) (by decide) rfl hml rfl pd_22 rfl rfl rfl at_358 (by decide) (by decide)) rfl rfl fun T X eT => ?_
    refine o_ifYes X hx hB at_361 (Jvm.Free.XT.i0_ne_t (by decide : ¬ ((1 : Int32) = 0))) 366 ?_
    refine o_aload X hx hB at_366 rfl rfl ?_
    have f123 := f62.keep Kq110
    have z124 := own_ne2 A36.lt t38_8
    have z125 := own_ne2 A36.lt t38_7
    have f126 := f63.keep Kq110 (ninS z125 (ninS z124 nin0))
    have f127 := own_castI (j := (2 : Int32)) (by decide) t110_10
    have f128 := own_castA (us := (own_p 17 [.null, .null])) (by rfl) t110_12
    refine own_kP (own_cvi X hx hZ hB (W := 0) hown (W 131 rfl) (W 132 rfl) (W 134 rfl) (W 133 rfl) (W 135 rfl) (W 70 rfl) (by decide) (rm_19 l Z a0 hw [] dc kd cr cc mr hG b278 d_282 ea_282 k_282 (own_p 17 [.null, .null]) (2 : Int32) (2 : Int32) _ n0 (own_zO O) O f123 f126 t110_8 t110_9 f127 t110_11 f128 (by decide)) (by decide) (by decide) eT f123 hml rfl pd_9 rfl rfl rfl at_368 (by decide) (by decide)) rfl rfl fun T X eT => ?_
    refine o_ifNo X hx hB at_371 (Jvm.Free.XT.i0_ne_f (by decide : ((2 : Int32) - (2 : Int32)) = 0)) ?_
    refine o_iconst X hx hB at_374 (1) ?_
    refine o_goto X hx hB at_375 379 ?_
    exact own_retN X hx (t := .boolean) Bd.returns (by simp) (hb hB at_379) (BodyLoose.notSynchronized Bd) (w := (1 : Int32)) rfl ⟨rfl, N⟩ (by decide) (by decide)
  · refine o_ifNo X hx hB at_99 (Jvm.Free.XT.ll_gt_f hPa) ?_
    refine o_iconst X hx hB at_102 (1) ?_
    refine o_goto X hx hB at_103 107 ?_
    refine o_istore X hx hB #[.val (.long pa), .second, .val (.long pb), .second, .val (.long ps), .second, .val (.int fl), .val (.int (1 : Int32)), .val (.int (0 : Int32)), .val (.ref b28), .val (.ref b68), .val (.int (1 : Int32)), .unset, .unset, .unset, .unset, .unset, .unset, .unset] at_107 rfl ?_
    refine o_iload X hx hB at_109 rfl ?_
    refine o_ifNo X hx hB at_111 (Jvm.Free.XT.i0_eq_f (by decide : ¬ ((1 : Int32) = 0))) ?_
    refine o_lloadN X hx hB at_114 rfl ?_
    refine o_lload X hx hB at_115 rfl ?_
    refine o_lcmp X hx hB at_117 ?_
    by_cases hPb : ps < pb
    · refine o_ifYes X hx hB at_118 (Jvm.Free.XT.ll_gt_t hPb) 125 ?_
      refine o_iconst X hx hB at_125 (0) ?_
      refine o_istore X hx hB #[.val (.long pa), .second, .val (.long pb), .second, .val (.long ps), .second, .val (.int fl), .val (.int (1 : Int32)), .val (.int (0 : Int32)), .val (.ref b28), .val (.ref b68), .val (.int (1 : Int32)), .val (.int (0 : Int32)), .unset, .unset, .unset, .unset, .unset, .unset] at_126 rfl ?_
      refine o_new X hx hZ hB hown (W 0 rfl) (W 1 rfl) (W 2 rfl) rfl at_128 (by decide) (by decide) fun T h129 b128 g129 X eT E129 A129 D129 => ?_
      have g_b128 := own_gn O g129
      have O := O.ext E129
      refine o_dup X hx hB at_131 rfl ?_
      have f130 := D129 (Or.inl (W 22 rfl)) (ty := .int) (by decide)
      have f131 := D129 (Or.inl (W 25 rfl)) (ty := (.array (.object "java/lang/Object"))) (by decide)
      have f132 := D129 (Or.inl (W 45 rfl)) (ty := .int) (by decide)
      refine own_kQ (own_csp X hx hZ hB (W := 1) hown rfl (W 3 rfl) (W 4 rfl) (W 5 rfl) (W 2 rfl) (by decide) (rm_1 l Z a0 hw [] dc kd cr cc mr hG b128 (0 : Int32) (0 : Int32) _ n0 (own_zO O) O A129 f130 f131 f132 g_b128) (by decide) (by decide) eT hml rfl pd_0 rfl rfl rfl at_132 (by decide) (by decide)) fun v T L133 hQ X => ?_
      obtain ⟨rfl, Nq133, Kq133, t133_0, t133_1, t133_2, t133_3⟩ := hQ
      have N := Fr.app N Nq133
      have O := O.keep Kq133 (allS g_b128 all0)
      refine o_astore X hx hB #[.val (.long pa), .second, .val (.long pb), .second, .val (.long ps), .second, .val (.int fl), .val (.int (1 : Int32)), .val (.int (0 : Int32)), .val (.ref b28), .val (.ref b68), .val (.int (1 : Int32)), .val (.int (0 : Int32)), .val (.ref b128), .unset, .unset, .unset, .unset, .unset] at_135 rfl rfl ?_
      refine o_new X hx hZ hB hown (W 0 rfl) (W 1 rfl) (W 2 rfl) rfl at_137 (by decide) (by decide) fun T h134 b137 g134 X eT E134 A134 D134 => ?_
      have g_b137 := own_gn O g134
      have O := O.ext E134
      refine o_dup X hx hB at_140 rfl ?_
      have f135 := D134 (Or.inl (W 22 rfl)) (ty := .int) (by decide)
      have f136 := D134 (Or.inl (W 25 rfl)) (ty := (.array (.object "java/lang/Object"))) (by decide)
      have f137 := D134 (Or.inl (W 45 rfl)) (ty := .int) (by decide)
      refine own_kQ (own_csp X hx hZ hB (W := 1) hown rfl (W 3 rfl) (W 4 rfl) (W 5 rfl) (W 2 rfl) (by decide) (rm_1 l Z a0 hw [] dc kd cr cc mr hG b137 (0 : Int32) (0 : Int32) _ n0 (own_zO O) O A134 f135 f136 f137 g_b137) (by decide) (by decide) eT hml rfl pd_0 rfl rfl rfl at_141 (by decide) (by decide)) fun v T L138 hQ X => ?_
      obtain ⟨rfl, Nq138, Kq138, t138_0, t138_1, t138_2, t138_3⟩ := hQ
      have N := Fr.app N Nq138
      have O := O.keep Kq138 (allS g_b137 all0)
      refine o_astore X hx hB #[.val (.long pa), .second, .val (.long pb), .second, .val (.long ps), .second, .val (.int fl), .val (.int (1 : Int32)), .val (.int (0 : Int32)), .val (.ref b28), .val (.ref b68), .val (.int (1 : Int32)), .val (.int (0 : Int32)), .val (.ref b128), .val (.ref b137), .unset, .unset, .unset, .unset] at_144 rfl rfl ?_
      refine o_iload X hx hB at_146 rfl ?_
      refine o_ifNo X hx hB at_148 (Jvm.Free.XT.i0_eq_f (by decide : ¬ ((1 : Int32) = 0))) ?_
      refine o_aload X hx hB at_151 rfl rfl ?_
      refine o_bipush X hx hB at_153 (10) ?_
      refine own_kP (own_cst X hx hZ hB (W := 1) hown (W 26 rfl) (W 27 rfl) (W 29 rfl) (W 28 rfl) (by decide) (rm_5 l Z a0 hw [] dc kd cr cc mr hG (10 : Int32) i10 _ n0 (own_zO O) O (by decide) (by decide) hin10 hs10) (by decide) (by decide) rfl hml rfl pd_21 rfl rfl rfl at_155 (by decide) (by decide)) rfl rfl fun T X eT => ?_
      have f139 := (t133_0.ext E134).keep Kq138
      have z140 := own_ne1 t133_0.lt g134
      have f141 := (t133_1.ext E134).keep Kq138 (ninS z140 nin0)
      have f142 := (t133_2.ext E134).keep Kq138 (ninS z140 nin0)
      have f143 := (t133_3.ext E134).keep Kq138 (ninS z140 nin0)
      refine own_kQ (own_cif X hx hZ hB (W := 0) hown (W 33 rfl) (W 34 rfl) (W 35 rfl) (W 36 rfl) (W 37 rfl) (W 38 rfl) (W 39 rfl) (W 40 rfl) (W 41 rfl) (W 2 rfl) (by decide) (rm_6f l Z a0 hw [] dc kd cr cc mr hG b128 i10 (0 : Int32) _ n0 (own_zO O) O f139 f141 f142 f143 g_b128 hX10) (by decide) (by decide) eT f139 hml rfl pd_7 rfl rfl rfl at_158 (by decide) (by decide)) fun v T L144 hQ X => ?_
      obtain ⟨b_158, k_158, rfl, Nq144, Kq144, t144_0, t144_1, t144_2, t144_3, t144_4, t144_5, t144_6⟩ := hQ
      have g_b_158 := Nat.le_trans (own_zO O) t144_5
      have N := Fr.app N Nq144
      have O := O.keep Kq144 (allS g_b128 all0)
      refine o_pop X hx hB at_163 rfl ?_
      refine o_iload X hx hB at_164 rfl ?_
      refine o_ifNo X hx hB at_166 (Jvm.Free.XT.i0_eq_f (by decide : ¬ ((1 : Int32) = 0))) ?_
      refine o_aload X hx hB at_169 rfl rfl ?_
      refine o_bipush X hx hB at_171 (11) ?_
      refine own_kP (own_cst X hx hZ hB (W := 1) hown (W 26 rfl) (W 27 rfl) (W 29 rfl) (W 28 rfl) (by decide) (rm_5 l Z a0 hw [] dc kd cr cc mr hG (11 : Int32) i11 _ n0 (own_zO O) O (by decide) (by decide) hin11 hs11) (by decide) (by decide) rfl hml rfl pd_21 rfl rfl rfl at_173 (by decide) (by decide)) rfl rfl fun T X eT => ?_
      have f145 := own_castI (j := (1 : Int32)) (by decide) t144_1
      have f146 := own_castI (j := (1 : Int32)) (by decide) t144_3
      have f147 := own_castA (us := (own_p 10 [.ref i10])) (by rfl) t144_4
      refine own_kQ (own_cif X hx hZ hB (W := 0) hown (W 33 rfl) (W 34 rfl) (W 35 rfl) (W 36 rfl) (W 37 rfl) (W 38 rfl) (W 39 rfl) (W 40 rfl) (W 41 rfl) (W 2 rfl) (by decide) (rm_6r l Z a0 hw [] dc kd cr cc mr hG b128 i11 (1 : Int32) b_158 k_158 (own_p 10 [.ref i10]) (1 : Int32) _ n0 (own_zO O) O t144_0 f145 t144_2 f146 f147 t144_6 g_b128 g_b_158 ⟨by decide, by decide⟩ (by decide) hX11) (by decide) (by decide) eT t144_0 hml rfl pd_7 rfl rfl rfl at_176 (by decide) (by decide)) fun v T L148 hQ X => ?_
      obtain ⟨rfl, Nq148, Kq148, t148_0, t148_1, t148_2, t148_3, t148_4, t148_5⟩ := hQ
      have N := Fr.app N Nq148
      have O := O.keep Kq148 (allS g_b128 (allS g_b_158 all0))
      refine o_pop X hx hB at_181 rfl ?_
      refine o_goto X hx hB at_182 216 ?_
      refine o_iload X hx hB at_216 rfl ?_
      refine o_ifNo X hx hB at_218 (Jvm.Free.XT.i0_ne_f (by decide : (0 : Int32) = 0)) ?_
      refine o_iload X hx hB at_221 rfl ?_
      refine o_ifYes X hx hB at_223 (Jvm.Free.XT.i0_eq_t (by decide : (0 : Int32) = 0)) 242 ?_
      refine o_aload X hx hB at_242 rfl rfl ?_
      refine o_bipush X hx hB at_244 (20) ?_
      refine own_kP (own_cst X hx hZ hB (W := 1) hown (W 26 rfl) (W 27 rfl) (W 29 rfl) (W 28 rfl) (by decide) (rm_5 l Z a0 hw [] dc kd cr cc mr hG (20 : Int32) i20 _ n0 (own_zO O) O (by decide) (by decide) hin20 hs20) (by decide) (by decide) rfl hml rfl pd_21 rfl rfl rfl at_246 (by decide) (by decide)) rfl rfl fun T X eT => ?_
      have f149 := (t138_0.keep Kq144).keep Kq148
      have z150 := own_ne2 t138_0.lt t144_5
      have f151 := (t138_1.keep Kq144 (ninS (Ne.symm z140) nin0)).keep Kq148 (ninS (Ne.symm z140) (ninS z150 nin0))
      have f152 := (t138_2.keep Kq144 (ninS (Ne.symm z140) nin0)).keep Kq148 (ninS (Ne.symm z140) (ninS z150 nin0))
      have f153 := (t138_3.keep Kq144 (ninS (Ne.symm z140) nin0)).keep Kq148 (ninS (Ne.symm z140) (ninS z150 nin0))
      refine own_kQ (own_cif X hx hZ hB (W := 0) hown (W 33 rfl) (W 34 rfl) (W 35 rfl) (W 36 rfl) (W 37 rfl) (W 38 rfl) (W 39 rfl) (W 40 rfl) (W 41 rfl) (W 2 rfl) (by decide) (rm_6f l Z a0 hw [] dc kd cr cc mr hG b137 i20 (0 : Int32) _ n0 (own_zO O) O f149 f151 f152 f153 g_b137 hX20) (by decide) (by decide) eT f149 hml rfl pd_7 rfl rfl rfl at_249 (by decide) (by decide)) fun v T L154 hQ X => ?_
      obtain ⟨b_249, k_249, rfl, Nq154, Kq154, t154_0, t154_1, t154_2, t154_3, t154_4, t154_5, t154_6⟩ := hQ
      have g_b_249 := Nat.le_trans (own_zO O) t154_5
      have N := Fr.app N Nq154
      have O := O.keep Kq154 (allS g_b137 all0)
      refine o_pop X hx hB at_254 rfl ?_
      refine o_iload X hx hB at_255 rfl ?_
      refine o_ifNo X hx hB at_257 (Jvm.Free.XT.i0_eq_f (by decide : ¬ ((1 : Int32) = 0))) ?_
      refine o_iconst X hx hB at_260 (0) ?_
      refine o_goto X hx hB at_261 265 ?_
      refine o_iload X hx hB at_265 rfl ?_
      refine o_ifYes X hx hB at_267 (Jvm.Free.XT.i0_eq_t (by decide : (0 : Int32) = 0)) 274 ?_
      refine o_iconst X hx hB at_274 (1) ?_
      refine o_iadd X hx hB at_275 ?_
      refine o_istore X hx hB #[.val (.long pa), .second, .val (.long pb), .second, .val (.long ps), .second, .val (.int fl), .val (.int (1 : Int32)), .val (.int (0 : Int32)), .val (.ref b28), .val (.ref b68), .val (.int (1 : Int32)), .val (.int (0 : Int32)), .val (.ref b128), .val (.ref b137), .val (.int ((0 : Int32) + (1 : Int32))), .unset, .unset, .unset] at_276 rfl ?_
      refine o_new X hx hZ hB hown (W 68 rfl) (W 69 rfl) (W 70 rfl) rfl at_278 (by decide) (by decide) fun T h155 b278 g155 X eT E155 A155 D155 => ?_
      have g_b278 := own_gn O g155
      have O := O.ext E155
      refine o_dup X hx hB at_281 rfl ?_
      have f156 := D155 (Or.inr (W 87 rfl)) (ty := (.object "java/util/Deque")) (by decide)
      refine own_kQ (own_csp X hx hZ hB (W := 1) hown rfl (W 71 rfl) (W 72 rfl) (W 73 rfl) (W 70 rfl) (by decide) (rm_11 l Z a0 hw [] dc kd cr cc mr hG b278 _ n0 (own_zO O) O A155 f156 g_b278) (by decide) (by decide) eT hml rfl pd_0 rfl rfl rfl at_282 (by decide) (by decide)) fun v T L157 hQ X => ?_
      obtain ⟨d_282, ea_282, k_282, rfl, Nq157, Kq157, t157_0, t157_1, t157_2, t157_3, t157_4, t157_5, t157_6, t157_7, t157_8⟩ := hQ
      have g_d_282 := Nat.le_trans (own_zO O) t157_7
      have g_ea_282 := Nat.le_trans (own_zO O) t157_8
      have N := Fr.app N Nq157
      have O := O.keep Kq157 (allS g_b278 all0)
      refine o_astore X hx hB #[.val (.long pa), .second, .val (.long pb), .second, .val (.long ps), .second, .val (.int fl), .val (.int (1 : Int32)), .val (.int (0 : Int32)), .val (.ref b28), .val (.ref b68), .val (.int (1 : Int32)), .val (.int (0 : Int32)), .val (.ref b128), .val (.ref b137), .val (.int ((0 : Int32) + (1 : Int32))), .val (.ref b278), .unset, .unset] at_285 rfl rfl ?_
      refine o_aload X hx hB at_287 rfl rfl ?_
      refine o_lloadN X hx hB at_289 rfl ?_
      refine o_aload X hx hB at_290 rfl rfl ?_
      have f158 := own_castA (us := (own_p 17 [])) (by rfl) t157_6
      have f159 := ((own_castA (us := (own_p 17 [])) (by rfl) t157_6)).2.2.2
      have z160 := Exa.ne t157_2 f159 (by decide)
      refine own_kQ (own_cvi X hx hZ hB (W := 0) hown (W 88 rfl) (W 89 rfl) (W 91 rfl) (W 90 rfl) (W 92 rfl) (W 70 rfl) (by decide) (rm_13 l Z a0 hw [] dc kd cr cc mr hG b278 pa b28 d_282 ea_282 k_282 (own_p 17 []) (0 : Int32) (0 : Int32) _ n0 (own_zO O) O t157_0 t157_1 t157_2 t157_3 t157_4 t157_5 f158 z160 g_d_282 g_ea_282 ⟨by decide, by decide⟩ (by decide) (by decide)) (by decide) (by decide) rfl t157_0 hml rfl pd_6 rfl rfl rfl at_292 (by decide) (by decide)) fun v T L161 hQ X => ?_
      obtain ⟨x_292, rfl, Nq161, Kq161, t161_0, t161_1, t161_2, t161_3, t161_4, t161_5, t161_6, t161_7, t161_8, t161_9, t161_10, t161_11⟩ := hQ
      have g_x_292 := Nat.le_trans (own_zO O) t161_11
      have N := Fr.app N Nq161
      have O := O.keep Kq161 (allS g_d_282 (allS g_ea_282 all0))
      refine o_aload X hx hB at_295 rfl rfl ?_
      refine o_lloadN X hx hB at_297 rfl ?_
      refine o_aload X hx hB at_298 rfl rfl ?_
      have f162 := own_castI (j := (1 : Int32)) (by decide) t161_5
      have f163 := own_castA (us := (own_p 17 [.ref x_292])) (by rfl) t161_6
      refine own_kQ (own_cvi X hx hZ hB (W := 0) hown (W 88 rfl) (W 89 rfl) (W 91 rfl) (W 90 rfl) (W 92 rfl) (W 70 rfl) (by decide) (rm_13 l Z a0 hw [] dc kd cr cc mr hG b278 pb b68 d_282 ea_282 k_282 (own_p 17 [.ref x_292]) (0 : Int32) (1 : Int32) _ n0 (own_zO O) O t161_0 t161_1 t161_2 t161_3 t161_4 f162 f163 t161_7 g_d_282 g_ea_282 ⟨by decide, by decide⟩ (by decide) (by decide)) (by decide) (by decide) rfl t161_0 hml rfl pd_6 rfl rfl rfl at_300 (by decide) (by decide)) fun v T L164 hQ X => ?_
      obtain ⟨x_300, rfl, Nq164, Kq164, t164_0, t164_1, t164_2, t164_3, t164_4, t164_5, t164_6, t164_7, t164_8, t164_9, t164_10, t164_11⟩ := hQ
      have g_x_300 := Nat.le_trans (own_zO O) t164_11
      have N := Fr.app N Nq164
      have O := O.keep Kq164 (allS g_d_282 (allS g_ea_282 all0))
      refine o_aload X hx hB at_303 rfl rfl ?_
      have f165 := own_castI (j := (2 : Int32)) (by decide) t164_5
      have f166 := own_castA (us := (own_p 17 [.ref x_292, .ref x_300])) (by rfl) t164_6
      refine own_kP (own_cvi X hx hZ hB (W := 0) hown (W 131 rfl) (W 132 rfl) (W 134 rfl) (W 133 rfl) (W 135 rfl) (W 70 rfl) (by decide) (rm_19 l Z a0 hw [] dc kd cr cc mr hG b278 d_282 ea_282 k_282 (own_p 17 [.ref x_292, .ref x_300]) (0 : Int32) (2 : Int32) _ n0 (own_zO O) O t164_0 t164_1 t164_2 t164_3 t164_4 f165 f166 (by decide)) (by decide) (by decide) rfl t164_0 hml rfl pd_9 rfl rfl rfl at_305 (by decide) (by decide)) rfl rfl fun T X eT => ?_
      refine o_iconst X hx hB at_308 (2) ?_
      refine o_icmpYes X hx hB at_309 (Jvm.Free.XT.ii_eq_t (by decide : ((2 : Int32) - (0 : Int32)) = (2 : Int32))) 314 ?_
      refine o_aload X hx hB at_314 rfl rfl ?_
      refine o_lload X hx hB at_316 rfl ?_
      have f167 := t161_8.keep Kq164
      have z168 := own_ne2 f159.lt t161_11
      have z169 := own_ne2 t157_2.lt t161_11
      have f170 := t161_9.keep Kq164 (ninS (Ne.symm z169) (ninS (Ne.symm z168) nin0))
      have f171 := t161_10.keep Kq164 (ninS (Ne.symm z169) (ninS (Ne.symm z168) nin0))
      have f172 := (((((((((((((t10_0.ext E11).keep Kq15).keep Kq16).ext E129).keep Kq133).ext E134).keep Kq138).keep Kq144).keep Kq148).keep Kq154).ext E155).keep Kq157).keep Kq161).keep Kq164
      have z173 := own_ne1 t10_0.lt g11
      have z174 := own_ne1 (((t10_0.ext E11).keep Kq15).keep Kq16).lt g129
      have z175 := own_ne1 (((((t10_0.ext E11).keep Kq15).keep Kq16).ext E129).keep Kq133).lt g134
      have z176 := own_ne2 (((((((t10_0.ext E11).keep Kq15).keep Kq16).ext E129).keep Kq133).ext E134).keep Kq138).lt t144_5
      have z177 := own_ne1 ((((((((((t10_0.ext E11).keep Kq15).keep Kq16).ext E129).keep Kq133).ext E134).keep Kq138).keep Kq144).keep Kq148).keep Kq154).lt g155
      have z178 := own_ne2 (((((((((((t10_0.ext E11).keep Kq15).keep Kq16).ext E129).keep Kq133).ext E134).keep Kq138).keep Kq144).keep Kq148).keep Kq154).ext E155).lt t157_8
      have z179 := own_ne2 (((((((((((t10_0.ext E11).keep Kq15).keep Kq16).ext E129).keep Kq133).ext E134).keep Kq138).keep Kq144).keep Kq148).keep Kq154).ext E155).lt t157_7
      have f180 := (((((((((((((t10_2.ext E11).keep Kq15 (ninS z173 nin0)).keep Kq16 (ninS z173 nin0)).ext E129).keep Kq133 (ninS z174 nin0)).ext E134).keep Kq138 (ninS z175 nin0)).keep Kq144 (ninS z174 nin0)).keep Kq148 (ninS z174 (ninS z176 nin0))).keep Kq154 (ninS z175 nin0)).ext E155).keep Kq157 (ninS z177 nin0)).keep Kq161 (ninS z179 (ninS z178 nin0))).keep Kq164 (ninS z179 (ninS z178 nin0))
      have f181 := ((((((((((((((own_castI (j := (2 : Int32)) (by decide) t10_3).ext E11).keep Kq15 (ninS z173 nin0)).keep Kq16 (ninS z173 nin0)).ext E129).keep Kq133 (ninS z174 nin0)).ext E134).keep Kq138 (ninS z175 nin0)).keep Kq144 (ninS z174 nin0)).keep Kq148 (ninS z174 (ninS z176 nin0))).keep Kq154 (ninS z175 nin0)).ext E155).keep Kq157 (ninS z177 nin0)).keep Kq161 (ninS z179 (ninS z178 nin0))).keep Kq164 (ninS z179 (ninS z178 nin0))
      have z182 := own_ne1 (((own_castA (us := (own_p 10 [.ref i10])) (by rfl) t6_4)).2.2.2.keep Kq10).lt g11
      have z183 := own_ne1 ((((((own_castA (us := (own_p 10 [.ref i10])) (by rfl) t6_4)).2.2.2.keep Kq10).ext E11).keep Kq15).keep Kq16).lt g129
      have z184 := own_ne1 ((((((((own_castA (us := (own_p 10 [.ref i10])) (by rfl) t6_4)).2.2.2.keep Kq10).ext E11).keep Kq15).keep Kq16).ext E129).keep Kq133).lt g134
      have z185 := own_ne2 ((((((((((own_castA (us := (own_p 10 [.ref i10])) (by rfl) t6_4)).2.2.2.keep Kq10).ext E11).keep Kq15).keep Kq16).ext E129).keep Kq133).ext E134).keep Kq138).lt t144_5
      have z186 := own_ne1 (((((((((((((own_castA (us := (own_p 10 [.ref i10])) (by rfl) t6_4)).2.2.2.keep Kq10).ext E11).keep Kq15).keep Kq16).ext E129).keep Kq133).ext E134).keep Kq138).keep Kq144).keep Kq148).keep Kq154).lt g155
      have z187 := own_ne2 ((((((((((((((own_castA (us := (own_p 10 [.ref i10])) (by rfl) t6_4)).2.2.2.keep Kq10).ext E11).keep Kq15).keep Kq16).ext E129).keep Kq133).ext E134).keep Kq138).keep Kq144).keep Kq148).keep Kq154).ext E155).lt t157_8
      have z188 := own_ne2 ((((((((((((((own_castA (us := (own_p 10 [.ref i10])) (by rfl) t6_4)).2.2.2.keep Kq10).ext E11).keep Kq15).keep Kq16).ext E129).keep Kq133).ext E134).keep Kq138).keep Kq144).keep Kq148).keep Kq154).ext E155).lt t157_7
      have f189 := ((((((((((((((own_castA (us := (own_p 10 [.ref i10, .ref i11])) (by rfl) t10_4).ext E11).keep Kq15 (ninS z182 nin0)).keep Kq16 (ninS z182 nin0)).ext E129).keep Kq133 (ninS z183 nin0)).ext E134).keep Kq138 (ninS z184 nin0)).keep Kq144 (ninS z183 nin0)).keep Kq148 (ninS z183 (ninS z185 nin0))).keep Kq154 (ninS z184 nin0)).ext E155).keep Kq157 (ninS z186 nin0)).keep Kq161 (ninS z188 (ninS z187 nin0))).keep Kq164 (ninS z188 (ninS z187 nin0))
      refine own_kQ (own_cvi X hx hZ hB (W := 0) hown (W 147 rfl) (W 148 rfl) (W 150 rfl) (W 149 rfl) (W 151 rfl) (W 70 rfl) (by decide) (rm_22_B l Z a0 hw [] dc kd cr cc mr hG b278 ps d_282 ea_282 k_282 (own_p 17 [.ref x_292, .ref x_300]) (0 : Int32) (2 : Int32) x_292 pa b28 b_44 (2 : Int32) k_44 (own_p 10 [.ref i10, .ref i11]) [Value.ref i10, Value.ref i11] x_300 pb b68 _ n0 (own_zO O) O t164_0 t164_1 t164_2 t164_3 t164_4 f165 f166 t164_7 f167 f170 f171 f172 f180 f181 f189 (Ne.symm z187) t164_8 t164_9 t164_10 g_d_282 g_ea_282 (by decide) ⟨by decide, by decide⟩ (by rfl) hPa (by decide) (by decide) (by decide) (by decide) (by decide) (by rfl) ⟨rfl, (own_cI hX10 (own_cI hX11 own_nI))⟩ (by decide) (by decide) (by decide) (by decide) ⟨by decide, by decide⟩ (by rfl) hPb) (by decide) (by decide) eT t164_0 hml rfl pd_20 rfl rfl rfl at_318 (by decide) (by decide)) fun v T L190 hQ X => ?_
      obtain ⟨b_318, eb_318, ke0_318, rfl, Nq190, Kq190, t190_0, t190_1, t190_2, t190_3, t190_4, t190_5, t190_6, t190_7, t190_8, t190_9, t190_10, t190_11, t190_12, t190_13⟩ := hQ
      have g_b_318 := Nat.le_trans (own_zO O) t190_4
      have g_eb_318 := Nat.le_trans (own_zO O) t190_7
      have N := Fr.app N Nq190
      have O := O.keep Kq190 (allS g_d_282 (allS g_ea_282 all0))
      refine o_astore X hx hB #[.val (.long pa), .second, .val (.long pb), .second, .val (.long ps), .second, .val (.int fl), .val (.int (1 : Int32)), .val (.int (0 : Int32)), .val (.ref b28), .val (.ref b68), .val (.int (1 : Int32)), .val (.int (0 : Int32)), .val (.ref b128), .val (.ref b137), .val (.int ((0 : Int32) + (1 : Int32))), .val (.ref b278), .val (.ref b_318), .unset] at_321 rfl rfl ?_
      refine o_aload X hx hB at_323 rfl rfl ?_
      refine o_aload X hx hB at_325 rfl rfl ?_
      have f191 := own_castI (j := (2 : Int32)) (by decide) t190_3
      have f192 := own_castA (us := (own_p 10 [.ref i10, .ref i11])) (by rfl) t190_5
      have f193 := (((((t148_0.keep Kq154).ext E155).keep Kq157).keep Kq161).keep Kq164).keep Kq190
      have z194 := own_ne1 (t148_0.keep Kq154).lt g155
      have z195 := own_ne2 ((t148_0.keep Kq154).ext E155).lt t157_8
      have z196 := own_ne2 ((t148_0.keep Kq154).ext E155).lt t157_7
      have f197 := (((((t148_2.keep Kq154 (ninS z140 nin0)).ext E155).keep Kq157 (ninS z194 nin0)).keep Kq161 (ninS z196 (ninS z195 nin0))).keep Kq164 (ninS z196 (ninS z195 nin0))).keep Kq190 (ninS z196 (ninS z195 nin0))
      have f198 := ((((((own_castI (j := (2 : Int32)) (by decide) t148_3).keep Kq154 (ninS z140 nin0)).ext E155).keep Kq157 (ninS z194 nin0)).keep Kq161 (ninS z196 (ninS z195 nin0))).keep Kq164 (ninS z196 (ninS z195 nin0))).keep Kq190 (ninS z196 (ninS z195 nin0))
      have z199 := own_ne1 ((((own_castA (us := (own_p 10 [.ref i10])) (by rfl) t144_4)).2.2.2.keep Kq148).keep Kq154).lt g155
      have z200 := own_ne2 (((((own_castA (us := (own_p 10 [.ref i10])) (by rfl) t144_4)).2.2.2.keep Kq148).keep Kq154).ext E155).lt t157_8
      have z201 := own_ne2 (((((own_castA (us := (own_p 10 [.ref i10])) (by rfl) t144_4)).2.2.2.keep Kq148).keep Kq154).ext E155).lt t157_7
      have f202 := ((((((own_castA (us := (own_p 10 [.ref i10, .ref i11])) (by rfl) t148_4).keep Kq154 (ninS (Ne.symm z150) nin0)).ext E155).keep Kq157 (ninS z199 nin0)).keep Kq161 (ninS z201 (ninS z200 nin0))).keep Kq164 (ninS z201 (ninS z200 nin0))).keep Kq190 (ninS z201 (ninS z200 nin0))
      refine own_kP (own_cst X hx hZ hB (W := 0) hown (W 184 rfl) (W 185 rfl) (W 187 rfl) (W 186 rfl) (by decide) (rm_28_2 l Z a0 hw [] dc kd cr cc mr hG b_318 b128 eb_318 ke0_318 (own_p 10 [.ref i10, .ref i11]) b_158 k_158 (own_p 10 [.ref i10, .ref i11]) i10 vv10 i11 vv11 _ n0 (own_zO O) O t190_0 t190_2 f191 f192 f193 f197 f198 f202 (hX10.ext O.2) (hV10.ext O.2) (hX11.ext O.2) (hV11.ext O.2) (by rfl) (by rfl) (by rfl) (by rfl)) (by decide) (by decide) rfl hml rfl pd_22 rfl rfl rfl at_327 (by decide) (by decide)) rfl rfl fun T X eT => ?_
      refine o_ifYes X hx hB at_330 (Jvm.Free.XT.i0_ne_t (by decide : ¬ ((1 : Int32) = 0))) 335 ?_
      refine o_aload X hx hB at_335 rfl rfl ?_
      have f203 := t164_0.keep Kq190
      have z204 := own_ne2 A155.lt t157_8
      have z205 := own_ne2 A155.lt t157_7
      have f206 := t164_1.keep Kq190 (ninS z205 (ninS z204 nin0))
      have f207 := own_castI (j := (1 : Int32)) (by decide) t190_10
      have f208 := own_castA (us := (own_p 17 [.null, .ref x_300])) (by rfl) t190_12
      refine own_kP (own_cvi X hx hZ hB (W := 0) hown (W 131 rfl) (W 132 rfl) (W 134 rfl) (W 133 rfl) (W 135 rfl) (W 70 rfl) (by decide) (rm_19 l Z a0 hw [] dc kd cr cc mr hG b278 d_282 ea_282 k_282 (own_p 17 [.null, .ref x_300]) (1 : Int32) (2 : Int32) _ n0 (own_zO O) O f203 f206 t190_8 t190_9 f207 t190_11 f208 (by decide)) (by decide) (by decide) eT f203 hml rfl pd_9 rfl rfl rfl at_337 (by decide) (by decide)) rfl rfl fun T X eT => ?_
      refine o_iload X hx hB at_340 rfl ?_
      refine o_icmpYes X hx hB at_342 (Jvm.Free.XT.ii_eq_t (by decide : ((2 : Int32) - (1 : Int32)) = ((0 : Int32) + (1 : Int32)))) 347 ?_
      refine o_aload X hx hB at_347 rfl rfl ?_
      have f209 := t164_8.keep Kq190
      have z210 := own_ne2 (f159.keep Kq161).lt t164_11
      have z211 := own_ne2 t161_2.lt t164_11
      have f212 := t164_9.keep Kq190 (ninS (Ne.symm z211) (ninS (Ne.symm z210) nin0))
      have f213 := t164_10.keep Kq190 (ninS (Ne.symm z211) (ninS (Ne.symm z210) nin0))
      have f214 := (((((((((((t16_0.ext E129).keep Kq133).ext E134).keep Kq138).keep Kq144).keep Kq148).keep Kq154).ext E155).keep Kq157).keep Kq161).keep Kq164).keep Kq190
      have z215 := own_ne1 t16_0.lt g129
      have z216 := own_ne1 ((t16_0.ext E129).keep Kq133).lt g134
      have z217 := own_ne2 ((((t16_0.ext E129).keep Kq133).ext E134).keep Kq138).lt t144_5
      have z218 := own_ne1 (((((((t16_0.ext E129).keep Kq133).ext E134).keep Kq138).keep Kq144).keep Kq148).keep Kq154).lt g155
      have z219 := own_ne2 ((((((((t16_0.ext E129).keep Kq133).ext E134).keep Kq138).keep Kq144).keep Kq148).keep Kq154).ext E155).lt t157_8
      have z220 := own_ne2 ((((((((t16_0.ext E129).keep Kq133).ext E134).keep Kq138).keep Kq144).keep Kq148).keep Kq154).ext E155).lt t157_7
      have f221 := (((((((((((t16_2.ext E129).keep Kq133 (ninS z215 nin0)).ext E134).keep Kq138 (ninS z216 nin0)).keep Kq144 (ninS z215 nin0)).keep Kq148 (ninS z215 (ninS z217 nin0))).keep Kq154 (ninS z216 nin0)).ext E155).keep Kq157 (ninS z218 nin0)).keep Kq161 (ninS z220 (ninS z219 nin0))).keep Kq164 (ninS z220 (ninS z219 nin0))).keep Kq190 (ninS z220 (ninS z219 nin0))
      have f222 := ((((((((((((own_castI (j := (1 : Int32)) (by decide) t16_3).ext E129).keep Kq133 (ninS z215 nin0)).ext E134).keep Kq138 (ninS z216 nin0)).keep Kq144 (ninS z215 nin0)).keep Kq148 (ninS z215 (ninS z217 nin0))).keep Kq154 (ninS z216 nin0)).ext E155).keep Kq157 (ninS z218 nin0)).keep Kq161 (ninS z220 (ninS z219 nin0))).keep Kq164 (ninS z220 (ninS z219 nin0))).keep Kq190 (ninS z220 (ninS z219 nin0))
      have z223 := own_ne1 ((own_castA (us := (own_p 10 [.ref i20])) (by rfl) t16_4)).2.2.2.lt g129
      have z224 := own_ne1 ((((own_castA (us := (own_p 10 [.ref i20])) (by rfl) t16_4)).2.2.2.ext E129).keep Kq133).lt g134
      have z225 := own_ne2 ((((((own_castA (us := (own_p 10 [.ref i20])) (by rfl) t16_4)).2.2.2.ext E129).keep Kq133).ext E134).keep Kq138).lt t144_5
      have z226 := own_ne1 (((((((((own_castA (us := (own_p 10 [.ref i20])) (by rfl) t16_4)).2.2.2.ext E129).keep Kq133).ext E134).keep Kq138).keep Kq144).keep Kq148).keep Kq154).lt g155
      have z227 := own_ne2 ((((((((((own_castA (us := (own_p 10 [.ref i20])) (by rfl) t16_4)).2.2.2.ext E129).keep Kq133).ext E134).keep Kq138).keep Kq144).keep Kq148).keep Kq154).ext E155).lt t157_8
      have z228 := own_ne2 ((((((((((own_castA (us := (own_p 10 [.ref i20])) (by rfl) t16_4)).2.2.2.ext E129).keep Kq133).ext E134).keep Kq138).keep Kq144).keep Kq148).keep Kq154).ext E155).lt t157_7
      have f229 := ((((((((((((own_castA (us := (own_p 10 [.ref i20])) (by rfl) t16_4).ext E129).keep Kq133 (ninS z223 nin0)).ext E134).keep Kq138 (ninS z224 nin0)).keep Kq144 (ninS z223 nin0)).keep Kq148 (ninS z223 (ninS z225 nin0))).keep Kq154 (ninS z224 nin0)).ext E155).keep Kq157 (ninS z226 nin0)).keep Kq161 (ninS z228 (ninS z227 nin0))).keep Kq164 (ninS z228 (ninS z227 nin0))).keep Kq190 (ninS z228 (ninS z227 nin0))
      refine own_kQ (own_cvi X hx hZ hB (W := 0) hown (W 196 rfl) (W 197 rfl) (W 199 rfl) (W 198 rfl) (W 200 rfl) (W 70 rfl) (by decide) (rm_30_1f l Z a0 hw [] dc kd cr cc mr hG b278 d_282 ea_282 k_282 (own_p 17 [.null, .ref x_300]) (1 : Int32) (2 : Int32) x_300 pb b68 b_89 (1 : Int32) k_89 (own_p 10 [.ref i20]) [Value.ref i20] _ n0 (own_zO O) O f203 f206 t190_8 t190_9 f207 t190_11 f208 t190_13 f209 f212 f213 f214 f221 f222 f229 (Ne.symm z227) g_d_282 g_ea_282 (by decide) ⟨by decide, by decide⟩ (by rfl) (own_mx pb) (by decide) (by decide) (by decide) (by decide) (by decide) (by rfl) ⟨rfl, (own_cI hX20 own_nI)⟩ (by decide) (by decide) (by decide) (by decide)) (by decide) (by decide) eT f203 hml rfl pd_18 rfl rfl rfl at_349 (by decide) (by decide)) fun v T L230 hQ X => ?_
      obtain ⟨b_349, eb_349, ke0_349, rfl, Nq230, Kq230, t230_0, t230_1, t230_2, t230_3, t230_4, t230_5, t230_6, t230_7, t230_8, t230_9, t230_10, t230_11, t230_12, t230_13⟩ := hQ
      have g_b_349 := Nat.le_trans (own_zO O) t230_4
      have g_eb_349 := Nat.le_trans (own_zO O) t230_7
      have N := Fr.app N Nq230
      have O := O.keep Kq230 (allS g_d_282 (allS g_ea_282 all0))
      refine o_astore X hx hB #[.val (.long pa), .second, .val (.long pb), .second, .val (.long ps), .second, .val (.int fl), .val (.int (1 : Int32)), .val (.int (0 : Int32)), .val (.ref b28), .val (.ref b68), .val (.int (1 : Int32)), .val (.int (0 : Int32)), .val (.ref b128), .val (.ref b137), .val (.int ((0 : Int32) + (1 : Int32))), .val (.ref b278), .val (.ref b_318), .val (.ref b_349)] at_352 rfl rfl ?_
      refine o_aload X hx hB at_354 rfl rfl ?_
      refine o_aload X hx hB at_356 rfl rfl ?_
      have f231 := own_castI (j := (1 : Int32)) (by decide) t230_3
      have f232 := own_castA (us := (own_p 10 [.ref i20])) (by rfl) t230_5
      have f233 := (((((t154_0.ext E155).keep Kq157).keep Kq161).keep Kq164).keep Kq190).keep Kq230
      have z234 := own_ne1 t154_0.lt g155
      have z235 := own_ne2 (t154_0.ext E155).lt t157_8
      have z236 := own_ne2 (t154_0.ext E155).lt t157_7
      have f237 := (((((t154_2.ext E155).keep Kq157 (ninS z234 nin0)).keep Kq161 (ninS z236 (ninS z235 nin0))).keep Kq164 (ninS z236 (ninS z235 nin0))).keep Kq190 (ninS z236 (ninS z235 nin0))).keep Kq230 (ninS z236 (ninS z235 nin0))
      have f238 := ((((((own_castI (j := (1 : Int32)) (by decide) t154_3).ext E155).keep Kq157 (ninS z234 nin0)).keep Kq161 (ninS z236 (ninS z235 nin0))).keep Kq164 (ninS z236 (ninS z235 nin0))).keep Kq190 (ninS z236 (ninS z235 nin0))).keep Kq230 (ninS z236 (ninS z235 nin0))
      have z239 := own_ne1 ((own_castA (us := (own_p 10 [.ref i20])) (by rfl) t154_4)).2.2.2.lt g155
      have z240 := own_ne2 (((own_castA (us := (own_p 10 [.ref i20])) (by rfl) t154_4)).2.2.2.ext E155).lt t157_8
      have z241 := own_ne2 (((own_castA (us := (own_p 10 [.ref i20])) (by rfl) t154_4)).2.2.2.ext E155).lt t157_7
      have f242 := ((((((own_castA (us := (own_p 10 [.ref i20])) (by rfl) t154_4).ext E155).keep Kq157 (ninS z239 nin0)).keep Kq161 (ninS z241 (ninS z240 nin0))).keep Kq164 (ninS z241 (ninS z240 nin0))).keep Kq190 (ninS z241 (ninS z240 nin0))).keep Kq230 (ninS z241 (ninS z240 nin0))
      refine own_kP (own_cst X hx hZ hB (W := 0) hown (W 184 rfl) (W 185 rfl) (W 187 rfl) (W 186 rfl) (by decide) (rm_28_1 l Z a0 hw [] dc kd cr cc mr hG b_349 b137 eb_349 ke0_349 (own_p 10 [.ref i20]) b_249 k_249 (own_p 10 [.ref i20]) i20 vv20 _ n0 (own_zO O) O t230_0 t230_2 f231 f232 f233 f237 f238 f242 (hX20.ext O.2) (hV20.ext O.2) (by rfl) (by rfl)) (by decide) (by decide) rfl hml rfl pd_22 rfl rfl rfl at_358 (by decide) (by decide)) rfl rfl fun T X eT => ?_
      refine o_ifYes X hx hB at_361 (Jvm.Free.XT.i0_ne_t (by decide : ¬ ((1 : Int32) = 0))) 366 ?_
      refine o_aload X hx hB at_366 rfl rfl ?_
      have f243 := f203.keep Kq230
      have f244 := f206.keep Kq230 (ninS z205 (ninS z204 nin0))
      have f245 := own_castI (j := (2 : Int32)) (by decide) t230_10
      have f246 := own_castA (us := (own_p 17 [.null, .null])) (by rfl) t230_12
      refine own_kP (own_cvi X hx hZ hB (W := 0) hown (W 131 rfl) (W 132 rfl) (W 134 rfl) (W 133 rfl) (W 135 rfl) (W 70 rfl) (by decide) (rm_19 l Z a0 hw [] dc kd cr cc mr hG b278 d_282 ea_282 k_282 (own_p 17 [.null, .null]) (2 : Int32) (2 : Int32) _ n0 (own_zO O) O f243 f244 t230_8 t230_9 f245 t230_11 f246 (by decide)) (by decide) (by decide) eT f243 hml rfl pd_9 rfl rfl rfl at_368 (by decide) (by decide)) rfl rfl fun T X eT => ?_
      refine o_ifNo X hx hB at_371 (Jvm.Free.XT.i0_ne_f (by decide : ((2 : Int32) - (2 : Int32)) = 0)) ?_
      refine o_iconst X hx hB at_374 (1) ?_
      refine o_goto X hx hB at_375 379 ?_
      exact own_retN X hx (t := .boolean) Bd.returns (by simp) (hb hB at_379) (BodyLoose.notSynchronized Bd) (w := (1 : Int32)) rfl ⟨rfl, N⟩ (by decide) (by decide)
    · refine o_ifNo X hx hB at_118 (Jvm.Free.XT.ll_gt_f hPb) ?_
      refine o_iconst X hx hB at_121 (1) ?_
      refine o_goto X hx hB at_122 126 ?_
      refine o_istore X hx hB #[.val (.long pa), .second, .val (.long pb), .second, .val (.long ps), .second, .val (.int fl), .val (.int (1 : Int32)), .val (.int (0 : Int32)), .val (.ref b28), .val (.ref b68), .val (.int (1 : Int32)), .val (.int (1 : Int32)), .unset, .unset, .unset, .unset, .unset, .unset] at_126 rfl ?_
      refine o_new X hx hZ hB hown (W 0 rfl) (W 1 rfl) (W 2 rfl) rfl at_128 (by decide) (by decide) fun T h247 b128 g247 X eT E247 A247 D247 => ?_
      have g_b128 := own_gn O g247
      have O := O.ext E247
      refine o_dup X hx hB at_131 rfl ?_
      have f248 := D247 (Or.inl (W 22 rfl)) (ty := .int) (by decide)
      have f249 := D247 (Or.inl (W 25 rfl)) (ty := (.array (.object "java/lang/Object"))) (by decide)
      have f250 := D247 (Or.inl (W 45 rfl)) (ty := .int) (by decide)
      refine own_kQ (own_csp X hx hZ hB (W := 1) hown rfl (W 3 rfl) (W 4 rfl) (W 5 rfl) (W 2 rfl) (by decide) (rm_1 l Z a0 hw [] dc kd cr cc mr hG b128 (0 : Int32) (0 : Int32) _ n0 (own_zO O) O A247 f248 f249 f250 g_b128) (by decide) (by decide) eT hml rfl pd_0 rfl rfl rfl at_132 (by decide) (by decide)) fun v T L251 hQ X => ?_
      obtain ⟨rfl, Nq251, Kq251, t251_0, t251_1, t251_2, t251_3⟩ := hQ
      have N := Fr.app N Nq251
      have O := O.keep Kq251 (allS g_b128 all0)
      refine o_astore X hx hB #[.val (.long pa), .second, .val (.long pb), .second, .val (.long ps), .second, .val (.int fl), .val (.int (1 : Int32)), .val (.int (0 : Int32)), .val (.ref b28), .val (.ref b68), .val (.int (1 : Int32)), .val (.int (1 : Int32)), .val (.ref b128), .unset, .unset, .unset, .unset, .unset] at_135 rfl rfl ?_
      refine o_new X hx hZ hB hown (W 0 rfl) (W 1 rfl) (W 2 rfl) rfl at_137 (by decide) (by decide) fun T h252 b137 g252 X eT E252 A252 D252 => ?_
      have g_b137 := own_gn O g252
      have O := O.ext E252
      refine o_dup X hx hB at_140 rfl ?_
      have f253 := D252 (Or.inl (W 22 rfl)) (ty := .int) (by decide)
      have f254 := D252 (Or.inl (W 25 rfl)) (ty := (.array (.object "java/lang/Object"))) (by decide)
      have f255 := D252 (Or.inl (W 45 rfl)) (ty := .int) (by decide)
      refine own_kQ (own_csp X hx hZ hB (W := 1) hown rfl (W 3 rfl) (W 4 rfl) (W 5 rfl) (W 2 rfl) (by decide) (rm_1 l Z a0 hw [] dc kd cr cc mr hG b137 (0 : Int32) (0 : Int32) _ n0 (own_zO O) O A252 f253 f254 f255 g_b137) (by decide) (by decide) eT hml rfl pd_0 rfl rfl rfl at_141 (by decide) (by decide)) fun v T L256 hQ X => ?_
      obtain ⟨rfl, Nq256, Kq256, t256_0, t256_1, t256_2, t256_3⟩ := hQ
      have N := Fr.app N Nq256
      have O := O.keep Kq256 (allS g_b137 all0)
      refine o_astore X hx hB #[.val (.long pa), .second, .val (.long pb), .second, .val (.long ps), .second, .val (.int fl), .val (.int (1 : Int32)), .val (.int (0 : Int32)), .val (.ref b28), .val (.ref b68), .val (.int (1 : Int32)), .val (.int (1 : Int32)), .val (.ref b128), .val (.ref b137), .unset, .unset, .unset, .unset] at_144 rfl rfl ?_
      refine o_iload X hx hB at_146 rfl ?_
      refine o_ifNo X hx hB at_148 (Jvm.Free.XT.i0_eq_f (by decide : ¬ ((1 : Int32) = 0))) ?_
      refine o_aload X hx hB at_151 rfl rfl ?_
      refine o_bipush X hx hB at_153 (10) ?_
      refine own_kP (own_cst X hx hZ hB (W := 1) hown (W 26 rfl) (W 27 rfl) (W 29 rfl) (W 28 rfl) (by decide) (rm_5 l Z a0 hw [] dc kd cr cc mr hG (10 : Int32) i10 _ n0 (own_zO O) O (by decide) (by decide) hin10 hs10) (by decide) (by decide) rfl hml rfl pd_21 rfl rfl rfl at_155 (by decide) (by decide)) rfl rfl fun T X eT => ?_
      have f257 := (t251_0.ext E252).keep Kq256
      have z258 := own_ne1 t251_0.lt g252
      have f259 := (t251_1.ext E252).keep Kq256 (ninS z258 nin0)
      have f260 := (t251_2.ext E252).keep Kq256 (ninS z258 nin0)
      have f261 := (t251_3.ext E252).keep Kq256 (ninS z258 nin0)
      refine own_kQ (own_cif X hx hZ hB (W := 0) hown (W 33 rfl) (W 34 rfl) (W 35 rfl) (W 36 rfl) (W 37 rfl) (W 38 rfl) (W 39 rfl) (W 40 rfl) (W 41 rfl) (W 2 rfl) (by decide) (rm_6f l Z a0 hw [] dc kd cr cc mr hG b128 i10 (0 : Int32) _ n0 (own_zO O) O f257 f259 f260 f261 g_b128 hX10) (by decide) (by decide) eT f257 hml rfl pd_7 rfl rfl rfl at_158 (by decide) (by decide)) fun v T L262 hQ X => ?_
      obtain ⟨b_158, k_158, rfl, Nq262, Kq262, t262_0, t262_1, t262_2, t262_3, t262_4, t262_5, t262_6⟩ := hQ
      have g_b_158 := Nat.le_trans (own_zO O) t262_5
      have N := Fr.app N Nq262
      have O := O.keep Kq262 (allS g_b128 all0)
      refine o_pop X hx hB at_163 rfl ?_
      refine o_iload X hx hB at_164 rfl ?_
      refine o_ifNo X hx hB at_166 (Jvm.Free.XT.i0_eq_f (by decide : ¬ ((1 : Int32) = 0))) ?_
      refine o_aload X hx hB at_169 rfl rfl ?_
      refine o_bipush X hx hB at_171 (11) ?_
      refine own_kP (own_cst X hx hZ hB (W := 1) hown (W 26 rfl) (W 27 rfl) (W 29 rfl) (W 28 rfl) (by decide) (rm_5 l Z a0 hw [] dc kd cr cc mr hG (11 : Int32) i11 _ n0 (own_zO O) O (by decide) (by decide) hin11 hs11) (by decide) (by decide) rfl hml rfl pd_21 rfl rfl rfl at_173 (by decide) (by decide)) rfl rfl fun T X eT => ?_
      have f263 := own_castI (j := (1 : Int32)) (by decide) t262_1
      have f264 := own_castI (j := (1 : Int32)) (by decide) t262_3
      have f265 := own_castA (us := (own_p 10 [.ref i10])) (by rfl) t262_4
      refine own_kQ (own_cif X hx hZ hB (W := 0) hown (W 33 rfl) (W 34 rfl) (W 35 rfl) (W 36 rfl) (W 37 rfl) (W 38 rfl) (W 39 rfl) (W 40 rfl) (W 41 rfl) (W 2 rfl) (by decide) (rm_6r l Z a0 hw [] dc kd cr cc mr hG b128 i11 (1 : Int32) b_158 k_158 (own_p 10 [.ref i10]) (1 : Int32) _ n0 (own_zO O) O t262_0 f263 t262_2 f264 f265 t262_6 g_b128 g_b_158 ⟨by decide, by decide⟩ (by decide) hX11) (by decide) (by decide) eT t262_0 hml rfl pd_7 rfl rfl rfl at_176 (by decide) (by decide)) fun v T L266 hQ X => ?_
      obtain ⟨rfl, Nq266, Kq266, t266_0, t266_1, t266_2, t266_3, t266_4, t266_5⟩ := hQ
      have N := Fr.app N Nq266
      have O := O.keep Kq266 (allS g_b128 (allS g_b_158 all0))
      refine o_pop X hx hB at_181 rfl ?_
      refine o_goto X hx hB at_182 216 ?_
      refine o_iload X hx hB at_216 rfl ?_
      refine o_ifNo X hx hB at_218 (Jvm.Free.XT.i0_ne_f (by decide : (0 : Int32) = 0)) ?_
      refine o_iload X hx hB at_221 rfl ?_
      refine o_ifNo X hx hB at_223 (Jvm.Free.XT.i0_eq_f (by decide : ¬ ((1 : Int32) = 0))) ?_
      refine o_aload X hx hB at_226 rfl rfl ?_
      refine o_bipush X hx hB at_228 (20) ?_
      refine own_kP (own_cst X hx hZ hB (W := 1) hown (W 26 rfl) (W 27 rfl) (W 29 rfl) (W 28 rfl) (by decide) (rm_5 l Z a0 hw [] dc kd cr cc mr hG (20 : Int32) i20 _ n0 (own_zO O) O (by decide) (by decide) hin20 hs20) (by decide) (by decide) rfl hml rfl pd_21 rfl rfl rfl at_230 (by decide) (by decide)) rfl rfl fun T X eT => ?_
      have f267 := own_castI (j := (2 : Int32)) (by decide) t266_1
      have f268 := own_castI (j := (2 : Int32)) (by decide) t266_3
      have f269 := own_castA (us := (own_p 10 [.ref i10, .ref i11])) (by rfl) t266_4
      refine own_kQ (own_cif X hx hZ hB (W := 0) hown (W 33 rfl) (W 34 rfl) (W 35 rfl) (W 36 rfl) (W 37 rfl) (W 38 rfl) (W 39 rfl) (W 40 rfl) (W 41 rfl) (W 2 rfl) (by decide) (rm_6r l Z a0 hw [] dc kd cr cc mr hG b128 i20 (2 : Int32) b_158 k_158 (own_p 10 [.ref i10, .ref i11]) (2 : Int32) _ n0 (own_zO O) O t266_0 f267 t266_2 f268 f269 t266_5 g_b128 g_b_158 ⟨by decide, by decide⟩ (by decide) hX20) (by decide) (by decide) eT t266_0 hml rfl pd_7 rfl rfl rfl at_233 (by decide) (by decide)) fun v T L270 hQ X => ?_
      obtain ⟨rfl, Nq270, Kq270, t270_0, t270_1, t270_2, t270_3, t270_4, t270_5⟩ := hQ
      have N := Fr.app N Nq270
      have O := O.keep Kq270 (allS g_b128 (allS g_b_158 all0))
      refine o_pop X hx hB at_238 rfl ?_
      refine o_goto X hx hB at_239 255 ?_
      refine o_iload X hx hB at_255 rfl ?_
      refine o_ifNo X hx hB at_257 (Jvm.Free.XT.i0_eq_f (by decide : ¬ ((1 : Int32) = 0))) ?_
      refine o_iconst X hx hB at_260 (0) ?_
      refine o_goto X hx hB at_261 265 ?_
      refine o_iload X hx hB at_265 rfl ?_
      refine o_ifNo X hx hB at_267 (Jvm.Free.XT.i0_eq_f (by decide : ¬ ((1 : Int32) = 0))) ?_
      refine o_iconst X hx hB at_270 (0) ?_
      refine o_goto X hx hB at_271 275 ?_
      refine o_iadd X hx hB at_275 ?_
      refine o_istore X hx hB #[.val (.long pa), .second, .val (.long pb), .second, .val (.long ps), .second, .val (.int fl), .val (.int (1 : Int32)), .val (.int (0 : Int32)), .val (.ref b28), .val (.ref b68), .val (.int (1 : Int32)), .val (.int (1 : Int32)), .val (.ref b128), .val (.ref b137), .val (.int ((0 : Int32) + (0 : Int32))), .unset, .unset, .unset] at_276 rfl ?_
      refine o_new X hx hZ hB hown (W 68 rfl) (W 69 rfl) (W 70 rfl) rfl at_278 (by decide) (by decide) fun T h271 b278 g271 X eT E271 A271 D271 => ?_
      have g_b278 := own_gn O g271
      have O := O.ext E271
      refine o_dup X hx hB at_281 rfl ?_
      have f272 := D271 (Or.inr (W 87 rfl)) (ty := (.object "java/util/Deque")) (by decide)
      refine own_kQ (own_csp X hx hZ hB (W := 1) hown rfl (W 71 rfl) (W 72 rfl) (W 73 rfl) (W 70 rfl) (by decide) (rm_11 l Z a0 hw [] dc kd cr cc mr hG b278 _ n0 (own_zO O) O A271 f272 g_b278) (by decide) (by decide) eT hml rfl pd_0 rfl rfl rfl at_282 (by decide) (by decide)) fun v T L273 hQ X => ?_
      obtain ⟨d_282, ea_282, k_282, rfl, Nq273, Kq273, t273_0, t273_1, t273_2, t273_3, t273_4, t273_5, t273_6, t273_7, t273_8⟩ := hQ
      have g_d_282 := Nat.le_trans (own_zO O) t273_7
      have g_ea_282 := Nat.le_trans (own_zO O) t273_8
      have N := Fr.app N Nq273
      have O := O.keep Kq273 (allS g_b278 all0)
      refine o_astore X hx hB #[.val (.long pa), .second, .val (.long pb), .second, .val (.long ps), .second, .val (.int fl), .val (.int (1 : Int32)), .val (.int (0 : Int32)), .val (.ref b28), .val (.ref b68), .val (.int (1 : Int32)), .val (.int (1 : Int32)), .val (.ref b128), .val (.ref b137), .val (.int ((0 : Int32) + (0 : Int32))), .val (.ref b278), .unset, .unset] at_285 rfl rfl ?_
      refine o_aload X hx hB at_287 rfl rfl ?_
      refine o_lloadN X hx hB at_289 rfl ?_
      refine o_aload X hx hB at_290 rfl rfl ?_
      have f274 := own_castA (us := (own_p 17 [])) (by rfl) t273_6
      have f275 := ((own_castA (us := (own_p 17 [])) (by rfl) t273_6)).2.2.2
      have z276 := Exa.ne t273_2 f275 (by decide)
      refine own_kQ (own_cvi X hx hZ hB (W := 0) hown (W 88 rfl) (W 89 rfl) (W 91 rfl) (W 90 rfl) (W 92 rfl) (W 70 rfl) (by decide) (rm_13 l Z a0 hw [] dc kd cr cc mr hG b278 pa b28 d_282 ea_282 k_282 (own_p 17 []) (0 : Int32) (0 : Int32) _ n0 (own_zO O) O t273_0 t273_1 t273_2 t273_3 t273_4 t273_5 f274 z276 g_d_282 g_ea_282 ⟨by decide, by decide⟩ (by decide) (by decide)) (by decide) (by decide) rfl t273_0 hml rfl pd_6 rfl rfl rfl at_292 (by decide) (by decide)) fun v T L277 hQ X => ?_
      obtain ⟨x_292, rfl, Nq277, Kq277, t277_0, t277_1, t277_2, t277_3, t277_4, t277_5, t277_6, t277_7, t277_8, t277_9, t277_10, t277_11⟩ := hQ
      have g_x_292 := Nat.le_trans (own_zO O) t277_11
      have N := Fr.app N Nq277
      have O := O.keep Kq277 (allS g_d_282 (allS g_ea_282 all0))
      refine o_aload X hx hB at_295 rfl rfl ?_
      refine o_lloadN X hx hB at_297 rfl ?_
      refine o_aload X hx hB at_298 rfl rfl ?_
      have f278 := own_castI (j := (1 : Int32)) (by decide) t277_5
      have f279 := own_castA (us := (own_p 17 [.ref x_292])) (by rfl) t277_6
      refine own_kQ (own_cvi X hx hZ hB (W := 0) hown (W 88 rfl) (W 89 rfl) (W 91 rfl) (W 90 rfl) (W 92 rfl) (W 70 rfl) (by decide) (rm_13 l Z a0 hw [] dc kd cr cc mr hG b278 pb b68 d_282 ea_282 k_282 (own_p 17 [.ref x_292]) (0 : Int32) (1 : Int32) _ n0 (own_zO O) O t277_0 t277_1 t277_2 t277_3 t277_4 f278 f279 t277_7 g_d_282 g_ea_282 ⟨by decide, by decide⟩ (by decide) (by decide)) (by decide) (by decide) rfl t277_0 hml rfl pd_6 rfl rfl rfl at_300 (by decide) (by decide)) fun v T L280 hQ X => ?_
      obtain ⟨x_300, rfl, Nq280, Kq280, t280_0, t280_1, t280_2, t280_3, t280_4, t280_5, t280_6, t280_7, t280_8, t280_9, t280_10, t280_11⟩ := hQ
      have g_x_300 := Nat.le_trans (own_zO O) t280_11
      have N := Fr.app N Nq280
      have O := O.keep Kq280 (allS g_d_282 (allS g_ea_282 all0))
      refine o_aload X hx hB at_303 rfl rfl ?_
      have f281 := own_castI (j := (2 : Int32)) (by decide) t280_5
      have f282 := own_castA (us := (own_p 17 [.ref x_292, .ref x_300])) (by rfl) t280_6
      refine own_kP (own_cvi X hx hZ hB (W := 0) hown (W 131 rfl) (W 132 rfl) (W 134 rfl) (W 133 rfl) (W 135 rfl) (W 70 rfl) (by decide) (rm_19 l Z a0 hw [] dc kd cr cc mr hG b278 d_282 ea_282 k_282 (own_p 17 [.ref x_292, .ref x_300]) (0 : Int32) (2 : Int32) _ n0 (own_zO O) O t280_0 t280_1 t280_2 t280_3 t280_4 f281 f282 (by decide)) (by decide) (by decide) rfl t280_0 hml rfl pd_9 rfl rfl rfl at_305 (by decide) (by decide)) rfl rfl fun T X eT => ?_
      refine o_iconst X hx hB at_308 (2) ?_
      refine o_icmpYes X hx hB at_309 (Jvm.Free.XT.ii_eq_t (by decide : ((2 : Int32) - (0 : Int32)) = (2 : Int32))) 314 ?_
      refine o_aload X hx hB at_314 rfl rfl ?_
      refine o_lload X hx hB at_316 rfl ?_
      have f283 := t277_8.keep Kq280
      have z284 := own_ne2 f275.lt t277_11
      have z285 := own_ne2 t273_2.lt t277_11
      have f286 := t277_9.keep Kq280 (ninS (Ne.symm z285) (ninS (Ne.symm z284) nin0))
      have f287 := t277_10.keep Kq280 (ninS (Ne.symm z285) (ninS (Ne.symm z284) nin0))
      have f288 := (((((((((((((t10_0.ext E11).keep Kq15).keep Kq16).ext E247).keep Kq251).ext E252).keep Kq256).keep Kq262).keep Kq266).keep Kq270).ext E271).keep Kq273).keep Kq277).keep Kq280
      have z289 := own_ne1 t10_0.lt g11
      have z290 := own_ne1 (((t10_0.ext E11).keep Kq15).keep Kq16).lt g247
      have z291 := own_ne1 (((((t10_0.ext E11).keep Kq15).keep Kq16).ext E247).keep Kq251).lt g252
      have z292 := own_ne2 (((((((t10_0.ext E11).keep Kq15).keep Kq16).ext E247).keep Kq251).ext E252).keep Kq256).lt t262_5
      have z293 := own_ne1 ((((((((((t10_0.ext E11).keep Kq15).keep Kq16).ext E247).keep Kq251).ext E252).keep Kq256).keep Kq262).keep Kq266).keep Kq270).lt g271
      have z294 := own_ne2 (((((((((((t10_0.ext E11).keep Kq15).keep Kq16).ext E247).keep Kq251).ext E252).keep Kq256).keep Kq262).keep Kq266).keep Kq270).ext E271).lt t273_8
      have z295 := own_ne2 (((((((((((t10_0.ext E11).keep Kq15).keep Kq16).ext E247).keep Kq251).ext E252).keep Kq256).keep Kq262).keep Kq266).keep Kq270).ext E271).lt t273_7
      have f296 := (((((((((((((t10_2.ext E11).keep Kq15 (ninS z289 nin0)).keep Kq16 (ninS z289 nin0)).ext E247).keep Kq251 (ninS z290 nin0)).ext E252).keep Kq256 (ninS z291 nin0)).keep Kq262 (ninS z290 nin0)).keep Kq266 (ninS z290 (ninS z292 nin0))).keep Kq270 (ninS z290 (ninS z292 nin0))).ext E271).keep Kq273 (ninS z293 nin0)).keep Kq277 (ninS z295 (ninS z294 nin0))).keep Kq280 (ninS z295 (ninS z294 nin0))
      have f297 := ((((((((((((((own_castI (j := (2 : Int32)) (by decide) t10_3).ext E11).keep Kq15 (ninS z289 nin0)).keep Kq16 (ninS z289 nin0)).ext E247).keep Kq251 (ninS z290 nin0)).ext E252).keep Kq256 (ninS z291 nin0)).keep Kq262 (ninS z290 nin0)).keep Kq266 (ninS z290 (ninS z292 nin0))).keep Kq270 (ninS z290 (ninS z292 nin0))).ext E271).keep Kq273 (ninS z293 nin0)).keep Kq277 (ninS z295 (ninS z294 nin0))).keep Kq280 (ninS z295 (ninS z294 nin0))
      have z298 := own_ne1 (((own_castA (us := (own_p 10 [.ref i10])) (by rfl) t6_4)).2.2.2.keep Kq10).lt g11
      have z299 := own_ne1 ((((((own_castA (us := (own_p 10 [.ref i10])) (by rfl) t6_4)).2.2.2.keep Kq10).ext E11).keep Kq15).keep Kq16).lt g247
      have z300 := own_ne1 ((((((((own_castA (us := (own_p 10 [.ref i10])) (by rfl) t6_4)).2.2.2.keep Kq10).ext E11).keep Kq15).keep Kq16).ext E247).keep Kq251).lt g252
      have z301 := own_ne2 ((((((((((own_castA (us := (own_p 10 [.ref i10])) (by rfl) t6_4)).2.2.2.keep Kq10).ext E11).keep Kq15).keep Kq16).ext E247).keep Kq251).ext E252).keep Kq256).lt t262_5
      have z302 := own_ne1 (((((((((((((own_castA (us := (own_p 10 [.ref i10])) (by rfl) t6_4)).2.2.2.keep Kq10).ext E11).keep Kq15).keep Kq16).ext E247).keep Kq251).ext E252).keep Kq256).keep Kq262).keep Kq266).keep Kq270).lt g271
      have z303 := own_ne2 ((((((((((((((own_castA (us := (own_p 10 [.ref i10])) (by rfl) t6_4)).2.2.2.keep Kq10).ext E11).keep Kq15).keep Kq16).ext E247).keep Kq251).ext E252).keep Kq256).keep Kq262).keep Kq266).keep Kq270).ext E271).lt t273_8
      have z304 := own_ne2 ((((((((((((((own_castA (us := (own_p 10 [.ref i10])) (by rfl) t6_4)).2.2.2.keep Kq10).ext E11).keep Kq15).keep Kq16).ext E247).keep Kq251).ext E252).keep Kq256).keep Kq262).keep Kq266).keep Kq270).ext E271).lt t273_7
      have f305 := ((((((((((((((own_castA (us := (own_p 10 [.ref i10, .ref i11])) (by rfl) t10_4).ext E11).keep Kq15 (ninS z298 nin0)).keep Kq16 (ninS z298 nin0)).ext E247).keep Kq251 (ninS z299 nin0)).ext E252).keep Kq256 (ninS z300 nin0)).keep Kq262 (ninS z299 nin0)).keep Kq266 (ninS z299 (ninS z301 nin0))).keep Kq270 (ninS z299 (ninS z301 nin0))).ext E271).keep Kq273 (ninS z302 nin0)).keep Kq277 (ninS z304 (ninS z303 nin0))).keep Kq280 (ninS z304 (ninS z303 nin0))
      have f306 := ((((((((((t16_0.ext E247).keep Kq251).ext E252).keep Kq256).keep Kq262).keep Kq266).keep Kq270).ext E271).keep Kq273).keep Kq277).keep Kq280
      have z307 := own_ne1 t16_0.lt g247
      have z308 := own_ne1 ((t16_0.ext E247).keep Kq251).lt g252
      have z309 := own_ne2 ((((t16_0.ext E247).keep Kq251).ext E252).keep Kq256).lt t262_5
      have z310 := own_ne1 (((((((t16_0.ext E247).keep Kq251).ext E252).keep Kq256).keep Kq262).keep Kq266).keep Kq270).lt g271
      have z311 := own_ne2 ((((((((t16_0.ext E247).keep Kq251).ext E252).keep Kq256).keep Kq262).keep Kq266).keep Kq270).ext E271).lt t273_8
      have z312 := own_ne2 ((((((((t16_0.ext E247).keep Kq251).ext E252).keep Kq256).keep Kq262).keep Kq266).keep Kq270).ext E271).lt t273_7
      have f313 := ((((((((((t16_2.ext E247).keep Kq251 (ninS z307 nin0)).ext E252).keep Kq256 (ninS z308 nin0)).keep Kq262 (ninS z307 nin0)).keep Kq266 (ninS z307 (ninS z309 nin0))).keep Kq270 (ninS z307 (ninS z309 nin0))).ext E271).keep Kq273 (ninS z310 nin0)).keep Kq277 (ninS z312 (ninS z311 nin0))).keep Kq280 (ninS z312 (ninS z311 nin0))
      have f314 := (((((((((((own_castI (j := (1 : Int32)) (by decide) t16_3).ext E247).keep Kq251 (ninS z307 nin0)).ext E252).keep Kq256 (ninS z308 nin0)).keep Kq262 (ninS z307 nin0)).keep Kq266 (ninS z307 (ninS z309 nin0))).keep Kq270 (ninS z307 (ninS z309 nin0))).ext E271).keep Kq273 (ninS z310 nin0)).keep Kq277 (ninS z312 (ninS z311 nin0))).keep Kq280 (ninS z312 (ninS z311 nin0))
      have z315 := own_ne1 ((own_castA (us := (own_p 10 [.ref i20])) (by rfl) t16_4)).2.2.2.lt g247
      have z316 := own_ne1 ((((own_castA (us := (own_p 10 [.ref i20])) (by rfl) t16_4)).2.2.2.ext E247).keep Kq251).lt g252
      have z317 := own_ne2 ((((((own_castA (us := (own_p 10 [.ref i20])) (by rfl) t16_4)).2.2.2.ext E247).keep Kq251).ext E252).keep Kq256).lt t262_5
      have z318 := own_ne1 (((((((((own_castA (us := (own_p 10 [.ref i20])) (by rfl) t16_4)).2.2.2.ext E247).keep Kq251).ext E252).keep Kq256).keep Kq262).keep Kq266).keep Kq270).lt g271
      have z319 := own_ne2 ((((((((((own_castA (us := (own_p 10 [.ref i20])) (by rfl) t16_4)).2.2.2.ext E247).keep Kq251).ext E252).keep Kq256).keep Kq262).keep Kq266).keep Kq270).ext E271).lt t273_8
      have z320 := own_ne2 ((((((((((own_castA (us := (own_p 10 [.ref i20])) (by rfl) t16_4)).2.2.2.ext E247).keep Kq251).ext E252).keep Kq256).keep Kq262).keep Kq266).keep Kq270).ext E271).lt t273_7
      have f321 := (((((((((((own_castA (us := (own_p 10 [.ref i20])) (by rfl) t16_4).ext E247).keep Kq251 (ninS z315 nin0)).ext E252).keep Kq256 (ninS z316 nin0)).keep Kq262 (ninS z315 nin0)).keep Kq266 (ninS z315 (ninS z317 nin0))).keep Kq270 (ninS z315 (ninS z317 nin0))).ext E271).keep Kq273 (ninS z318 nin0)).keep Kq277 (ninS z320 (ninS z319 nin0))).keep Kq280 (ninS z320 (ninS z319 nin0))
      have z322 := own_ne2 t277_8.lt t280_11
      refine own_kQ (own_cvi X hx hZ hB (W := 0) hown (W 147 rfl) (W 148 rfl) (W 150 rfl) (W 149 rfl) (W 151 rfl) (W 70 rfl) (by decide) (rm_22_Cr l Z a0 hw [] dc kd cr cc mr hG b278 ps d_282 ea_282 k_282 (own_p 17 [.ref x_292, .ref x_300]) (0 : Int32) (2 : Int32) x_292 pa b28 b_44 (2 : Int32) k_44 (own_p 10 [.ref i10, .ref i11]) [Value.ref i10, Value.ref i11] x_300 pb b68 b_89 (1 : Int32) k_89 (own_p 10 [.ref i20]) [Value.ref i20] _ n0 (own_zO O) O t280_0 t280_1 t280_2 t280_3 t280_4 f281 f282 t280_7 f283 f286 f287 f288 f296 f297 f305 (Ne.symm z303) t280_8 t280_9 t280_10 f306 f313 f314 f321 (Ne.symm z319) z322 g_d_282 g_ea_282 (by decide) ⟨by decide, by decide⟩ (by rfl) hPa (by decide) (by decide) (by decide) (by decide) (by decide) (by rfl) ⟨rfl, (own_cI hX10 (own_cI hX11 own_nI))⟩ (by decide) (by decide) (by decide) (by decide) ⟨by decide, by decide⟩ (by rfl) hPb (by decide) (by decide) (by decide) (by decide) (by decide) (by rfl) ⟨rfl, (own_cI hX20 own_nI)⟩ (by decide) (by decide) (by decide) (by decide) (by decide)) (by decide) (by decide) eT t280_0 hml rfl pd_20 rfl rfl rfl at_318 (by decide) (by decide)) fun v T L323 hQ X => ?_
      obtain ⟨b_318, eb_318, ke0_318, rfl, Nq323, Kq323, t323_0, t323_1, t323_2, t323_3, t323_4, t323_5, t323_6, t323_7, t323_8, t323_9, t323_10, t323_11, t323_12, t323_13⟩ := hQ
      have g_b_318 := Nat.le_trans (own_zO O) t323_4
      have g_eb_318 := Nat.le_trans (own_zO O) t323_7
      have N := Fr.app N Nq323
      have O := O.keep Kq323 (allS g_d_282 (allS g_ea_282 all0))
      refine o_astore X hx hB #[.val (.long pa), .second, .val (.long pb), .second, .val (.long ps), .second, .val (.int fl), .val (.int (1 : Int32)), .val (.int (0 : Int32)), .val (.ref b28), .val (.ref b68), .val (.int (1 : Int32)), .val (.int (1 : Int32)), .val (.ref b128), .val (.ref b137), .val (.int ((0 : Int32) + (0 : Int32))), .val (.ref b278), .val (.ref b_318), .unset] at_321 rfl rfl ?_
      refine o_aload X hx hB at_323 rfl rfl ?_
      refine o_aload X hx hB at_325 rfl rfl ?_
      have f324 := own_castI (j := (3 : Int32)) (by decide) t323_3
      have f325 := own_castA (us := (own_p 10 [.ref i10, .ref i11, .ref i20])) (by rfl) t323_5
      have f326 := ((((t270_0.ext E271).keep Kq273).keep Kq277).keep Kq280).keep Kq323
      have z327 := own_ne1 t270_0.lt g271
      have z328 := own_ne2 (t270_0.ext E271).lt t273_8
      have z329 := own_ne2 (t270_0.ext E271).lt t273_7
      have f330 := ((((t270_2.ext E271).keep Kq273 (ninS z327 nin0)).keep Kq277 (ninS z329 (ninS z328 nin0))).keep Kq280 (ninS z329 (ninS z328 nin0))).keep Kq323 (ninS z329 (ninS z328 nin0))
      have f331 := (((((own_castI (j := (3 : Int32)) (by decide) t270_3).ext E271).keep Kq273 (ninS z327 nin0)).keep Kq277 (ninS z329 (ninS z328 nin0))).keep Kq280 (ninS z329 (ninS z328 nin0))).keep Kq323 (ninS z329 (ninS z328 nin0))
      have z332 := own_ne1 ((((own_castA (us := (own_p 10 [.ref i10])) (by rfl) t262_4)).2.2.2.keep Kq266).keep Kq270).lt g271
      have z333 := own_ne2 (((((own_castA (us := (own_p 10 [.ref i10])) (by rfl) t262_4)).2.2.2.keep Kq266).keep Kq270).ext E271).lt t273_8
      have z334 := own_ne2 (((((own_castA (us := (own_p 10 [.ref i10])) (by rfl) t262_4)).2.2.2.keep Kq266).keep Kq270).ext E271).lt t273_7
      have f335 := (((((own_castA (us := (own_p 10 [.ref i10, .ref i11, .ref i20])) (by rfl) t270_4).ext E271).keep Kq273 (ninS z332 nin0)).keep Kq277 (ninS z334 (ninS z333 nin0))).keep Kq280 (ninS z334 (ninS z333 nin0))).keep Kq323 (ninS z334 (ninS z333 nin0))
      refine own_kP (own_cst X hx hZ hB (W := 0) hown (W 184 rfl) (W 185 rfl) (W 187 rfl) (W 186 rfl) (by decide) (rm_28_3 l Z a0 hw [] dc kd cr cc mr hG b_318 b128 eb_318 ke0_318 (own_p 10 [.ref i10, .ref i11, .ref i20]) b_158 k_158 (own_p 10 [.ref i10, .ref i11, .ref i20]) i10 vv10 i11 vv11 i20 vv20 _ n0 (own_zO O) O t323_0 t323_2 f324 f325 f326 f330 f331 f335 (hX10.ext O.2) (hV10.ext O.2) (hX11.ext O.2) (hV11.ext O.2) (hX20.ext O.2) (hV20.ext O.2) (by rfl) (by rfl) (by rfl) (by rfl) (by rfl) (by rfl)) (by decide) (by decide) rfl hml rfl pd_22 rfl rfl rfl at_327 (by decide) (by decide)) rfl rfl fun T X eT => ?_
      refine o_ifYes X hx hB at_330 (Jvm.Free.XT.i0_ne_t (by decide : ¬ ((1 : Int32) = 0))) 335 ?_
      refine o_aload X hx hB at_335 rfl rfl ?_
      have f336 := t280_0.keep Kq323
      have z337 := own_ne2 A271.lt t273_8
      have z338 := own_ne2 A271.lt t273_7
      have f339 := t280_1.keep Kq323 (ninS z338 (ninS z337 nin0))
      have f340 := own_castI (j := (2 : Int32)) (by decide) t323_10
      have f341 := own_castA (us := (own_p 17 [.null, .null])) (by rfl) t323_12
      refine own_kP (own_cvi X hx hZ hB (W := 0) hown (W 131 rfl) (W 132 rfl) (W 134 rfl) (W 133 rfl) (W 135 rfl) (W 70 rfl) (by decide) (rm_19 l Z a0 hw [] dc kd cr cc mr hG b278 d_282 ea_282 k_282 (own_p 17 [.null, .null]) (2 : Int32) (2 : Int32) _ n0 (own_zO O) O f336 f339 t323_8 t323_9 f340 t323_11 f341 (by decide)) (by decide) (by decide) eT f336 hml rfl pd_9 rfl rfl rfl at_337 (by decide) (by decide)) rfl rfl fun T X eT => ?_
      refine o_iload X hx hB at_340 rfl ?_
      refine o_icmpYes X hx hB at_342 (Jvm.Free.XT.ii_eq_t (by decide : ((2 : Int32) - (2 : Int32)) = ((0 : Int32) + (0 : Int32)))) 347 ?_
      refine o_aload X hx hB at_347 rfl rfl ?_
      refine own_kQ (own_cvi X hx hZ hB (W := 0) hown (W 196 rfl) (W 197 rfl) (W 199 rfl) (W 198 rfl) (W 200 rfl) (W 70 rfl) (by decide) (rm_30_0 l Z a0 hw [] dc kd cr cc mr hG b278 d_282 ea_282 k_282 (own_p 17 [.null, .null]) (2 : Int32) (2 : Int32) _ n0 (own_zO O) O f336 f339 t323_8 t323_9 f340 t323_11 f341 t323_13 (by decide)) (by decide) (by decide) eT f336 hml rfl pd_18 rfl rfl rfl at_349 (by decide) (by decide)) fun v T L342 hQ X => ?_
      obtain ⟨b_349, rfl, Nq342, Kq342, t342_0, t342_1, t342_2, t342_3, t342_4⟩ := hQ
      have g_b_349 := Nat.le_trans (own_zO O) t342_4
      have N := Fr.app N Nq342
      have O := O.keep Kq342 all0
      refine o_astore X hx hB #[.val (.long pa), .second, .val (.long pb), .second, .val (.long ps), .second, .val (.int fl), .val (.int (1 : Int32)), .val (.int (0 : Int32)), .val (.ref b28), .val (.ref b68), .val (.int (1 : Int32)), .val (.int (1 : Int32)), .val (.ref b128), .val (.ref b137), .val (.int ((0 : Int32) + (0 : Int32))), .val (.ref b278), .val (.ref b_318), .val (.ref b_349)] at_352 rfl rfl ?_
      refine o_aload X hx hB at_354 rfl rfl ?_
      refine o_aload X hx hB at_356 rfl rfl ?_
      have f343 := ((((((((t256_0.keep Kq262).keep Kq266).keep Kq270).ext E271).keep Kq273).keep Kq277).keep Kq280).keep Kq323).keep Kq342
      have z344 := own_ne2 t256_0.lt t262_5
      have z345 := own_ne1 (((t256_0.keep Kq262).keep Kq266).keep Kq270).lt g271
      have z346 := own_ne2 ((((t256_0.keep Kq262).keep Kq266).keep Kq270).ext E271).lt t273_8
      have z347 := own_ne2 ((((t256_0.keep Kq262).keep Kq266).keep Kq270).ext E271).lt t273_7
      have f348 := ((((((((t256_2.keep Kq262 (ninS (Ne.symm z258) nin0)).keep Kq266 (ninS (Ne.symm z258) (ninS z344 nin0))).keep Kq270 (ninS (Ne.symm z258) (ninS z344 nin0))).ext E271).keep Kq273 (ninS z345 nin0)).keep Kq277 (ninS z347 (ninS z346 nin0))).keep Kq280 (ninS z347 (ninS z346 nin0))).keep Kq323 (ninS z347 (ninS z346 nin0))).keep Kq342 nin0
      have f349 := ((((((((t256_3.keep Kq262 (ninS (Ne.symm z258) nin0)).keep Kq266 (ninS (Ne.symm z258) (ninS z344 nin0))).keep Kq270 (ninS (Ne.symm z258) (ninS z344 nin0))).ext E271).keep Kq273 (ninS z345 nin0)).keep Kq277 (ninS z347 (ninS z346 nin0))).keep Kq280 (ninS z347 (ninS z346 nin0))).keep Kq323 (ninS z347 (ninS z346 nin0))).keep Kq342 nin0
      refine own_kP (own_cst X hx hZ hB (W := 0) hown (W 184 rfl) (W 185 rfl) (W 187 rfl) (W 186 rfl) (by decide) (rm_28_0 l Z a0 hw [] dc kd cr cc mr hG b_349 b137 dc kd [] dc kd [] _ n0 (own_zO O) O t342_0 t342_2 t342_3 f343 f348 f349) (by decide) (by decide) rfl hml rfl pd_22 rfl rfl rfl at_358 (by decide) (by decide)) rfl rfl fun T X eT => ?_
      refine o_ifYes X hx hB at_361 (Jvm.Free.XT.i0_ne_t (by decide : ¬ ((1 : Int32) = 0))) 366 ?_
      refine o_aload X hx hB at_366 rfl rfl ?_
      have f350 := f336.keep Kq342
      have f351 := f339.keep Kq342 nin0
      have f352 := t323_8.keep Kq342
      have f353 := t323_9.keep Kq342 nin0
      have f354 := f340.keep Kq342 nin0
      have f355 := t323_11.keep Kq342 nin0
      have f356 := f341.keep Kq342 nin0
      refine own_kP (own_cvi X hx hZ hB (W := 0) hown (W 131 rfl) (W 132 rfl) (W 134 rfl) (W 133 rfl) (W 135 rfl) (W 70 rfl) (by decide) (rm_19 l Z a0 hw [] dc kd cr cc mr hG b278 d_282 ea_282 k_282 (own_p 17 [.null, .null]) (2 : Int32) (2 : Int32) _ n0 (own_zO O) O f350 f351 f352 f353 f354 f355 f356 (by decide)) (by decide) (by decide) eT f350 hml rfl pd_9 rfl rfl rfl at_368 (by decide) (by decide)) rfl rfl fun T X eT => ?_
      refine o_ifNo X hx hB at_371 (Jvm.Free.XT.i0_ne_f (by decide : ((2 : Int32) - (2 : Int32)) = 0)) ?_
      refine o_iconst X hx hB at_374 (1) ?_
      refine o_goto X hx hB at_375 379 ?_
      exact own_retN X hx (t := .boolean) Bd.returns (by simp) (hb hB at_379) (BodyLoose.notSynchronized Bd) (w := (1 : Int32)) rfl ⟨rfl, N⟩ (by decide) (by decide)
theorem ef_0_11 (m : MethodId) (pa : Int64) (pb : Int64) (ps : Int64) (fl : Int32) : entryFrame m #[(.long pa), (.long pb), (.long ps), (.int fl)] maxLocals = mkF m 0 #[.val (.long pa), .second, .val (.long pb), .second, .val (.long ps), .second, .val (.int fl), .unset, .unset, .unset, .unset, .unset, .unset, .unset, .unset, .unset, .unset, .unset, .unset] [] := by first | (simp [entryFrame, mkF, argsToLocals, Value.category, maxLocals]; done) | rfl
set_option maxRecDepth 65536 in
set_option maxHeartbeats 40000000 in
theorem rm_0_11 (l : Launch) (Z : State) (a0 : Array Value) (hw : own_Hw a0 Z) (ws : List Jvm.Cond) (dc : Addr) (kd : ClassId) (cr : Addr) (cc : Cell) (mr : Addr) (hG : own_G Z dc kd cr cc mr) (pa pb ps : Int64) (fl : Int32) (i10 i11 i20 : Addr) (vv10 vv11 vv20 : Int32) (h0 : Heap) (n0 : Nat) (Z0 : n0 ≤ h0.size) (hO : Old Z n0 h0) (hin10 : ¬ (((10 : Int32) + (128 : Int32)) < 0 ∨ cc.slots.size ≤ ((10 : Int32) + (128 : Int32)).toNatClampNeg)) (hs10 : cc.slots[((10 : Int32) + (128 : Int32)).toNatClampNeg]? = some (.ref i10)) (hX10 : Exa Z Z.heap i10 "java/lang/Integer") (hV10 : Fld Z Z.heap i10 "java/lang/Integer" "value" "I" (.int vv10)) (hin11 : ¬ (((11 : Int32) + (128 : Int32)) < 0 ∨ cc.slots.size ≤ ((11 : Int32) + (128 : Int32)).toNatClampNeg)) (hs11 : cc.slots[((11 : Int32) + (128 : Int32)).toNatClampNeg]? = some (.ref i11)) (hX11 : Exa Z Z.heap i11 "java/lang/Integer") (hV11 : Fld Z Z.heap i11 "java/lang/Integer" "value" "I" (.int vv11)) (hin20 : ¬ (((20 : Int32) + (128 : Int32)) < 0 ∨ cc.slots.size ≤ ((20 : Int32) + (128 : Int32)).toNatClampNeg)) (hs20 : cc.slots[((20 : Int32) + (128 : Int32)).toNatClampNeg]? = some (.ref i20)) (hX20 : Exa Z Z.heap i20 "java/lang/Integer") (hV20 : Fld Z Z.heap i20 "java/lang/Integer" "value" "I" (.int vv20)) (hT : ¬ ((fl &&& (1 : Int32)) = 0)) (hS : ¬ ((fl &&& (2 : Int32)) = 0)) :
    own_Met l x (Jvm.Cond.code x code maxLocals ret) ws room_1 #[(.long pa), (.long pb), (.long ps), (.int fl)] Z h0 (own_Ql (some (.int (1 : Int32))) n0) 48 320 := by
  refine MetFree.of_bodySF (plainFor_of_name pn_0) hisR ?_
  intro p e s m args below meth c T Bd hml0 hP hK
  obtain ⟨rfl, hZ, hh⟩ := hP
  obtain ⟨hx, hB⟩ := And.intro Bd.exec Bd.bytes
  have hml : c.maxLocals = 19 := hml0
  have hown : s.vm.findClass "com/example/sandpiper/sandpiper/broker/AwaitingSyncAddPinLaw" = some m.cls := findClass_of_methodNamed Bd.named
  have hnm := (name_of_methodNamed Bd.named Bd.method).1
  have X : Stand p l e room_1 s m #[(.long pa), (.long pb), (.long ps), (.int fl)] below meth c T [] 0 0 := Stand.of_body Bd
  have eT : T.heap = h0 := by rw [← hh, Bd.state]; rfl
  have W := @own_Wd a0 Z hw
  have N := Fr.nil n0
  have O := hO
  refine own_enter (ef_0_11 m pa pb ps fl) ?_
  show own_Goes _ _ _ _ (own_P s (own_Ql (some (.int (1 : Int32))) n0) 48 320)
  refine o_iload X hx hB at_0 rfl ?_
  refine o_iconst X hx hB at_2 (1) ?_
  refine o_iand X hx hB at_3 ?_
  refine o_ifNo X hx hB at_4 (Jvm.Free.XT.i0_eq_f hT) ?_
  refine o_iconst X hx hB at_7 (1) ?_
  refine o_goto X hx hB at_8 12 ?_
  refine o_istore X hx hB #[.val (.long pa), .second, .val (.long pb), .second, .val (.long ps), .second, .val (.int fl), .val (.int (1 : Int32)), .unset, .unset, .unset, .unset, .unset, .unset, .unset, .unset, .unset, .unset, .unset] at_12 rfl ?_
  refine o_iload X hx hB at_14 rfl ?_
  refine o_iconst X hx hB at_16 (2) ?_
  refine o_iand X hx hB at_17 ?_
  refine o_ifNo X hx hB at_18 (Jvm.Free.XT.i0_eq_f hS) ?_
  refine o_iconst X hx hB at_21 (1) ?_
  refine o_goto X hx hB at_22 26 ?_
  refine o_istore X hx hB #[.val (.long pa), .second, .val (.long pb), .second, .val (.long ps), .second, .val (.int fl), .val (.int (1 : Int32)), .val (.int (1 : Int32)), .unset, .unset, .unset, .unset, .unset, .unset, .unset, .unset, .unset, .unset] at_26 rfl ?_
  refine o_new X hx hZ hB hown (W 0 rfl) (W 1 rfl) (W 2 rfl) eT at_28 (by decide) (by decide) fun T h1 b28 g1 X eT E1 A1 D1 => ?_
  have g_b28 := own_gn O g1
  have O := O.ext E1
  refine o_dup X hx hB at_31 rfl ?_
  have f2 := D1 (Or.inl (W 22 rfl)) (ty := .int) (by decide)
  have f3 := D1 (Or.inl (W 25 rfl)) (ty := (.array (.object "java/lang/Object"))) (by decide)
  have f4 := D1 (Or.inl (W 45 rfl)) (ty := .int) (by decide)
  refine own_kQ (own_csp X hx hZ hB (W := 1) hown rfl (W 3 rfl) (W 4 rfl) (W 5 rfl) (W 2 rfl) (by decide) (rm_1 l Z a0 hw [] dc kd cr cc mr hG b28 (0 : Int32) (0 : Int32) _ n0 (own_zO O) O A1 f2 f3 f4 g_b28) (by decide) (by decide) eT hml rfl pd_0 rfl rfl rfl at_32 (by decide) (by decide)) fun v T L5 hQ X => ?_
  obtain ⟨rfl, Nq5, Kq5, t5_0, t5_1, t5_2, t5_3⟩ := hQ
  have N := Fr.app N Nq5
  have O := O.keep Kq5 (allS g_b28 all0)
  refine o_astore X hx hB #[.val (.long pa), .second, .val (.long pb), .second, .val (.long ps), .second, .val (.int fl), .val (.int (1 : Int32)), .val (.int (1 : Int32)), .val (.ref b28), .unset, .unset, .unset, .unset, .unset, .unset, .unset, .unset, .unset] at_35 rfl rfl ?_
  refine o_aload X hx hB at_37 rfl rfl ?_
  refine o_bipush X hx hB at_39 (10) ?_
  refine own_kP (own_cst X hx hZ hB (W := 1) hown (W 26 rfl) (W 27 rfl) (W 29 rfl) (W 28 rfl) (by decide) (rm_5 l Z a0 hw [] dc kd cr cc mr hG (10 : Int32) i10 _ n0 (own_zO O) O (by decide) (by decide) hin10 hs10) (by decide) (by decide) rfl hml rfl pd_21 rfl rfl rfl at_41 (by decide) (by decide)) rfl rfl fun T X eT => ?_
  refine own_kQ (own_cif X hx hZ hB (W := 0) hown (W 33 rfl) (W 34 rfl) (W 35 rfl) (W 36 rfl) (W 37 rfl) (W 38 rfl) (W 39 rfl) (W 40 rfl) (W 41 rfl) (W 2 rfl) (by decide) (rm_6f l Z a0 hw [] dc kd cr cc mr hG b28 i10 (0 : Int32) _ n0 (own_zO O) O t5_0 t5_1 t5_2 t5_3 g_b28 hX10) (by decide) (by decide) eT t5_0 hml rfl pd_7 rfl rfl rfl at_44 (by decide) (by decide)) fun v T L6 hQ X => ?_
  obtain ⟨b_44, k_44, rfl, Nq6, Kq6, t6_0, t6_1, t6_2, t6_3, t6_4, t6_5, t6_6⟩ := hQ
  have g_b_44 := Nat.le_trans (own_zO O) t6_5
  have N := Fr.app N Nq6
  have O := O.keep Kq6 (allS g_b28 all0)
  refine o_pop X hx hB at_49 rfl ?_
  refine o_iload X hx hB at_50 rfl ?_
  refine o_ifNo X hx hB at_52 (Jvm.Free.XT.i0_eq_f (by decide : ¬ ((1 : Int32) = 0))) ?_
  refine o_aload X hx hB at_55 rfl rfl ?_
  refine o_bipush X hx hB at_57 (11) ?_
  refine own_kP (own_cst X hx hZ hB (W := 1) hown (W 26 rfl) (W 27 rfl) (W 29 rfl) (W 28 rfl) (by decide) (rm_5 l Z a0 hw [] dc kd cr cc mr hG (11 : Int32) i11 _ n0 (own_zO O) O (by decide) (by decide) hin11 hs11) (by decide) (by decide) rfl hml rfl pd_21 rfl rfl rfl at_59 (by decide) (by decide)) rfl rfl fun T X eT => ?_
  have f7 := own_castI (j := (1 : Int32)) (by decide) t6_1
  have f8 := own_castI (j := (1 : Int32)) (by decide) t6_3
  have f9 := own_castA (us := (own_p 10 [.ref i10])) (by rfl) t6_4
  refine own_kQ (own_cif X hx hZ hB (W := 0) hown (W 33 rfl) (W 34 rfl) (W 35 rfl) (W 36 rfl) (W 37 rfl) (W 38 rfl) (W 39 rfl) (W 40 rfl) (W 41 rfl) (W 2 rfl) (by decide) (rm_6r l Z a0 hw [] dc kd cr cc mr hG b28 i11 (1 : Int32) b_44 k_44 (own_p 10 [.ref i10]) (1 : Int32) _ n0 (own_zO O) O t6_0 f7 t6_2 f8 f9 t6_6 g_b28 g_b_44 ⟨by decide, by decide⟩ (by decide) hX11) (by decide) (by decide) eT t6_0 hml rfl pd_7 rfl rfl rfl at_62 (by decide) (by decide)) fun v T L10 hQ X => ?_
  obtain ⟨rfl, Nq10, Kq10, t10_0, t10_1, t10_2, t10_3, t10_4, t10_5⟩ := hQ
  have N := Fr.app N Nq10
  have O := O.keep Kq10 (allS g_b28 (allS g_b_44 all0))
  refine o_pop X hx hB at_67 rfl ?_
  refine o_new X hx hZ hB hown (W 0 rfl) (W 1 rfl) (W 2 rfl) rfl at_68 (by decide) (by decide) fun T h11 b68 g11 X eT E11 A11 D11 => ?_
  have g_b68 := own_gn O g11
  have O := O.ext E11
  refine o_dup X hx hB at_71 rfl ?_
  have f12 := D11 (Or.inl (W 22 rfl)) (ty := .int) (by decide)
  have f13 := D11 (Or.inl (W 25 rfl)) (ty := (.array (.object "java/lang/Object"))) (by decide)
  have f14 := D11 (Or.inl (W 45 rfl)) (ty := .int) (by decide)
  refine own_kQ (own_csp X hx hZ hB (W := 1) hown rfl (W 3 rfl) (W 4 rfl) (W 5 rfl) (W 2 rfl) (by decide) (rm_1 l Z a0 hw [] dc kd cr cc mr hG b68 (0 : Int32) (0 : Int32) _ n0 (own_zO O) O A11 f12 f13 f14 g_b68) (by decide) (by decide) eT hml rfl pd_0 rfl rfl rfl at_72 (by decide) (by decide)) fun v T L15 hQ X => ?_
  obtain ⟨rfl, Nq15, Kq15, t15_0, t15_1, t15_2, t15_3⟩ := hQ
  have N := Fr.app N Nq15
  have O := O.keep Kq15 (allS g_b68 all0)
  refine o_astore X hx hB #[.val (.long pa), .second, .val (.long pb), .second, .val (.long ps), .second, .val (.int fl), .val (.int (1 : Int32)), .val (.int (1 : Int32)), .val (.ref b28), .val (.ref b68), .unset, .unset, .unset, .unset, .unset, .unset, .unset, .unset] at_75 rfl rfl ?_
  refine o_iload X hx hB at_77 rfl ?_
  refine o_ifYes X hx hB at_79 (Jvm.Free.XT.i0_ne_t (by decide : ¬ ((1 : Int32) = 0))) 95 ?_
  refine o_lloadN X hx hB at_95 rfl ?_
  refine o_lload X hx hB at_96 rfl ?_
  refine o_lcmp X hx hB at_98 ?_
  by_cases hPa : ps < pa
  · refine o_ifYes X hx hB at_99 (Jvm.Free.XT.ll_gt_t hPa) 106 ?_
    refine o_iconst X hx hB at_106 (0) ?_
    refine o_istore X hx hB #[.val (.long pa), .second, .val (.long pb), .second, .val (.long ps), .second, .val (.int fl), .val (.int (1 : Int32)), .val (.int (1 : Int32)), .val (.ref b28), .val (.ref b68), .val (.int (0 : Int32)), .unset, .unset, .unset, .unset, .unset, .unset, .unset] at_107 rfl ?_
    refine o_iload X hx hB at_109 rfl ?_
    refine o_ifYes X hx hB at_111 (Jvm.Free.XT.i0_eq_t (by decide : (0 : Int32) = 0)) 125 ?_
    refine o_iconst X hx hB at_125 (0) ?_
    refine o_istore X hx hB #[.val (.long pa), .second, .val (.long pb), .second, .val (.long ps), .second, .val (.int fl), .val (.int (1 : Int32)), .val (.int (1 : Int32)), .val (.ref b28), .val (.ref b68), .val (.int (0 : Int32)), .val (.int (0 : Int32)), .unset, .unset, .unset, .unset, .unset, .unset] at_126 rfl ?_
    refine o_new X hx hZ hB hown (W 0 rfl) (W 1 rfl) (W 2 rfl) rfl at_128 (by decide) (by decide) fun T h16 b128 g16 X eT E16 A16 D16 => ?_
    have g_b128 := own_gn O g16
    have O := O.ext E16
    refine o_dup X hx hB at_131 rfl ?_
    have f17 := D16 (Or.inl (W 22 rfl)) (ty := .int) (by decide)
    have f18 := D16 (Or.inl (W 25 rfl)) (ty := (.array (.object "java/lang/Object"))) (by decide)
    have f19 := D16 (Or.inl (W 45 rfl)) (ty := .int) (by decide)
    refine own_kQ (own_csp X hx hZ hB (W := 1) hown rfl (W 3 rfl) (W 4 rfl) (W 5 rfl) (W 2 rfl) (by decide) (rm_1 l Z a0 hw [] dc kd cr cc mr hG b128 (0 : Int32) (0 : Int32) _ n0 (own_zO O) O A16 f17 f18 f19 g_b128) (by decide) (by decide) eT hml rfl pd_0 rfl rfl rfl at_132 (by decide) (by decide)) fun v T L20 hQ X => ?_
    obtain ⟨rfl, Nq20, Kq20, t20_0, t20_1, t20_2, t20_3⟩ := hQ
    have N := Fr.app N Nq20
    have O := O.keep Kq20 (allS g_b128 all0)
    refine o_astore X hx hB #[.val (.long pa), .second, .val (.long pb), .second, .val (.long ps), .second, .val (.int fl), .val (.int (1 : Int32)), .val (.int (1 : Int32)), .val (.ref b28), .val (.ref b68), .val (.int (0 : Int32)), .val (.int (0 : Int32)), .val (.ref b128), .unset, .unset, .unset, .unset, .unset] at_135 rfl rfl ?_
    refine o_new X hx hZ hB hown (W 0 rfl) (W 1 rfl) (W 2 rfl) rfl at_137 (by decide) (by decide) fun T h21 b137 g21 X eT E21 A21 D21 => ?_
    have g_b137 := own_gn O g21
    have O := O.ext E21
    refine o_dup X hx hB at_140 rfl ?_
    have f22 := D21 (Or.inl (W 22 rfl)) (ty := .int) (by decide)
    have f23 := D21 (Or.inl (W 25 rfl)) (ty := (.array (.object "java/lang/Object"))) (by decide)
    have f24 := D21 (Or.inl (W 45 rfl)) (ty := .int) (by decide)
    refine own_kQ (own_csp X hx hZ hB (W := 1) hown rfl (W 3 rfl) (W 4 rfl) (W 5 rfl) (W 2 rfl) (by decide) (rm_1 l Z a0 hw [] dc kd cr cc mr hG b137 (0 : Int32) (0 : Int32) _ n0 (own_zO O) O A21 f22 f23 f24 g_b137) (by decide) (by decide) eT hml rfl pd_0 rfl rfl rfl at_141 (by decide) (by decide)) fun v T L25 hQ X => ?_
    obtain ⟨rfl, Nq25, Kq25, t25_0, t25_1, t25_2, t25_3⟩ := hQ
    have N := Fr.app N Nq25
    have O := O.keep Kq25 (allS g_b137 all0)
    refine o_astore X hx hB #[.val (.long pa), .second, .val (.long pb), .second, .val (.long ps), .second, .val (.int fl), .val (.int (1 : Int32)), .val (.int (1 : Int32)), .val (.ref b28), .val (.ref b68), .val (.int (0 : Int32)), .val (.int (0 : Int32)), .val (.ref b128), .val (.ref b137), .unset, .unset, .unset, .unset] at_144 rfl rfl ?_
    refine o_iload X hx hB at_146 rfl ?_
    refine o_ifYes X hx hB at_148 (Jvm.Free.XT.i0_eq_t (by decide : (0 : Int32) = 0)) 185 ?_
    refine o_aload X hx hB at_185 rfl rfl ?_
    refine o_bipush X hx hB at_187 (10) ?_
    refine own_kP (own_cst X hx hZ hB (W := 1) hown (W 26 rfl) (W 27 rfl) (W 29 rfl) (W 28 rfl) (by decide) (rm_5 l Z a0 hw [] dc kd cr cc mr hG (10 : Int32) i10 _ n0 (own_zO O) O (by decide) (by decide) hin10 hs10) (by decide) (by decide) rfl hml rfl pd_21 rfl rfl rfl at_189 (by decide) (by decide)) rfl rfl fun T X eT => ?_
    refine own_kQ (own_cif X hx hZ hB (W := 0) hown (W 33 rfl) (W 34 rfl) (W 35 rfl) (W 36 rfl) (W 37 rfl) (W 38 rfl) (W 39 rfl) (W 40 rfl) (W 41 rfl) (W 2 rfl) (by decide) (rm_6f l Z a0 hw [] dc kd cr cc mr hG b137 i10 (0 : Int32) _ n0 (own_zO O) O t25_0 t25_1 t25_2 t25_3 g_b137 hX10) (by decide) (by decide) eT t25_0 hml rfl pd_7 rfl rfl rfl at_192 (by decide) (by decide)) fun v T L26 hQ X => ?_
    obtain ⟨b_192, k_192, rfl, Nq26, Kq26, t26_0, t26_1, t26_2, t26_3, t26_4, t26_5, t26_6⟩ := hQ
    have g_b_192 := Nat.le_trans (own_zO O) t26_5
    have N := Fr.app N Nq26
    have O := O.keep Kq26 (allS g_b137 all0)
    refine o_pop X hx hB at_197 rfl ?_
    refine o_iload X hx hB at_198 rfl ?_
    refine o_ifNo X hx hB at_200 (Jvm.Free.XT.i0_eq_f (by decide : ¬ ((1 : Int32) = 0))) ?_
    refine o_aload X hx hB at_203 rfl rfl ?_
    refine o_bipush X hx hB at_205 (11) ?_
    refine own_kP (own_cst X hx hZ hB (W := 1) hown (W 26 rfl) (W 27 rfl) (W 29 rfl) (W 28 rfl) (by decide) (rm_5 l Z a0 hw [] dc kd cr cc mr hG (11 : Int32) i11 _ n0 (own_zO O) O (by decide) (by decide) hin11 hs11) (by decide) (by decide) rfl hml rfl pd_21 rfl rfl rfl at_207 (by decide) (by decide)) rfl rfl fun T X eT => ?_
    have f27 := own_castI (j := (1 : Int32)) (by decide) t26_1
    have f28 := own_castI (j := (1 : Int32)) (by decide) t26_3
    have f29 := own_castA (us := (own_p 10 [.ref i10])) (by rfl) t26_4
    refine own_kQ (own_cif X hx hZ hB (W := 0) hown (W 33 rfl) (W 34 rfl) (W 35 rfl) (W 36 rfl) (W 37 rfl) (W 38 rfl) (W 39 rfl) (W 40 rfl) (W 41 rfl) (W 2 rfl) (by decide) (rm_6r l Z a0 hw [] dc kd cr cc mr hG b137 i11 (1 : Int32) b_192 k_192 (own_p 10 [.ref i10]) (1 : Int32) _ n0 (own_zO O) O t26_0 f27 t26_2 f28 f29 t26_6 g_b137 g_b_192 ⟨by decide, by decide⟩ (by decide) hX11) (by decide) (by decide) eT t26_0 hml rfl pd_7 rfl rfl rfl at_210 (by decide) (by decide)) fun v T L30 hQ X => ?_
    obtain ⟨rfl, Nq30, Kq30, t30_0, t30_1, t30_2, t30_3, t30_4, t30_5⟩ := hQ
    have N := Fr.app N Nq30
    have O := O.keep Kq30 (allS g_b137 (allS g_b_192 all0))
    refine o_pop X hx hB at_215 rfl ?_
    refine o_iload X hx hB at_216 rfl ?_
    refine o_ifYes X hx hB at_218 (Jvm.Free.XT.i0_ne_t (by decide : ¬ ((1 : Int32) = 0))) 255 ?_
    refine o_iload X hx hB at_255 rfl ?_
    refine o_ifYes X hx hB at_257 (Jvm.Free.XT.i0_eq_t (by decide : (0 : Int32) = 0)) 264 ?_
    refine o_iconst X hx hB at_264 (1) ?_
    refine o_iload X hx hB at_265 rfl ?_
    refine o_ifYes X hx hB at_267 (Jvm.Free.XT.i0_eq_t (by decide : (0 : Int32) = 0)) 274 ?_
    refine o_iconst X hx hB at_274 (1) ?_
    refine o_iadd X hx hB at_275 ?_
    refine o_istore X hx hB #[.val (.long pa), .second, .val (.long pb), .second, .val (.long ps), .second, .val (.int fl), .val (.int (1 : Int32)), .val (.int (1 : Int32)), .val (.ref b28), .val (.ref b68), .val (.int (0 : Int32)), .val (.int (0 : Int32)), .val (.ref b128), .val (.ref b137), .val (.int ((1 : Int32) + (1 : Int32))), .unset, .unset, .unset] at_276 rfl ?_
    refine o_new X hx hZ hB hown (W 68 rfl) (W 69 rfl) (W 70 rfl) rfl at_278 (by decide) (by decide) fun T h31 b278 g31 X eT E31 A31 D31 => ?_
    have g_b278 := own_gn O g31
    have O := O.ext E31
    refine o_dup X hx hB at_281 rfl ?_
    have f32 := D31 (Or.inr (W 87 rfl)) (ty := (.object "java/util/Deque")) (by decide)
    refine own_kQ (own_csp X hx hZ hB (W := 1) hown rfl (W 71 rfl) (W 72 rfl) (W 73 rfl) (W 70 rfl) (by decide) (rm_11 l Z a0 hw [] dc kd cr cc mr hG b278 _ n0 (own_zO O) O A31 f32 g_b278) (by decide) (by decide) eT hml rfl pd_0 rfl rfl rfl at_282 (by decide) (by decide)) fun v T L33 hQ X => ?_
    obtain ⟨d_282, ea_282, k_282, rfl, Nq33, Kq33, t33_0, t33_1, t33_2, t33_3, t33_4, t33_5, t33_6, t33_7, t33_8⟩ := hQ
    have g_d_282 := Nat.le_trans (own_zO O) t33_7
    have g_ea_282 := Nat.le_trans (own_zO O) t33_8
    have N := Fr.app N Nq33
    have O := O.keep Kq33 (allS g_b278 all0)
    refine o_astore X hx hB #[.val (.long pa), .second, .val (.long pb), .second, .val (.long ps), .second, .val (.int fl), .val (.int (1 : Int32)), .val (.int (1 : Int32)), .val (.ref b28), .val (.ref b68), .val (.int (0 : Int32)), .val (.int (0 : Int32)), .val (.ref b128), .val (.ref b137), .val (.int ((1 : Int32) + (1 : Int32))), .val (.ref b278), .unset, .unset] at_285 rfl rfl ?_
    refine o_aload X hx hB at_287 rfl rfl ?_
    refine o_lloadN X hx hB at_289 rfl ?_
    refine o_aload X hx hB at_290 rfl rfl ?_
    have f34 := own_castA (us := (own_p 17 [])) (by rfl) t33_6
    have f35 := ((own_castA (us := (own_p 17 [])) (by rfl) t33_6)).2.2.2
    have z36 := Exa.ne t33_2 f35 (by decide)
    refine own_kQ (own_cvi X hx hZ hB (W := 0) hown (W 88 rfl) (W 89 rfl) (W 91 rfl) (W 90 rfl) (W 92 rfl) (W 70 rfl) (by decide) (rm_13 l Z a0 hw [] dc kd cr cc mr hG b278 pa b28 d_282 ea_282 k_282 (own_p 17 []) (0 : Int32) (0 : Int32) _ n0 (own_zO O) O t33_0 t33_1 t33_2 t33_3 t33_4 t33_5 f34 z36 g_d_282 g_ea_282 ⟨by decide, by decide⟩ (by decide) (by decide)) (by decide) (by decide) rfl t33_0 hml rfl pd_6 rfl rfl rfl at_292 (by decide) (by decide)) fun v T L37 hQ X => ?_
    obtain ⟨x_292, rfl, Nq37, Kq37, t37_0, t37_1, t37_2, t37_3, t37_4, t37_5, t37_6, t37_7, t37_8, t37_9, t37_10, t37_11⟩ := hQ
    have g_x_292 := Nat.le_trans (own_zO O) t37_11
    have N := Fr.app N Nq37
    have O := O.keep Kq37 (allS g_d_282 (allS g_ea_282 all0))
    refine o_aload X hx hB at_295 rfl rfl ?_
    refine o_lloadN X hx hB at_297 rfl ?_
    refine o_aload X hx hB at_298 rfl rfl ?_
    have f38 := own_castI (j := (1 : Int32)) (by decide) t37_5
    have f39 := own_castA (us := (own_p 17 [.ref x_292])) (by rfl) t37_6
    refine own_kQ (own_cvi X hx hZ hB (W := 0) hown (W 88 rfl) (W 89 rfl) (W 91 rfl) (W 90 rfl) (W 92 rfl) (W 70 rfl) (by decide) (rm_13 l Z a0 hw [] dc kd cr cc mr hG b278 pb b68 d_282 ea_282 k_282 (own_p 17 [.ref x_292]) (0 : Int32) (1 : Int32) _ n0 (own_zO O) O t37_0 t37_1 t37_2 t37_3 t37_4 f38 f39 t37_7 g_d_282 g_ea_282 ⟨by decide, by decide⟩ (by decide) (by decide)) (by decide) (by decide) rfl t37_0 hml rfl pd_6 rfl rfl rfl at_300 (by decide) (by decide)) fun v T L40 hQ X => ?_
    obtain ⟨x_300, rfl, Nq40, Kq40, t40_0, t40_1, t40_2, t40_3, t40_4, t40_5, t40_6, t40_7, t40_8, t40_9, t40_10, t40_11⟩ := hQ
    have g_x_300 := Nat.le_trans (own_zO O) t40_11
    have N := Fr.app N Nq40
    have O := O.keep Kq40 (allS g_d_282 (allS g_ea_282 all0))
    refine o_aload X hx hB at_303 rfl rfl ?_
    have f41 := own_castI (j := (2 : Int32)) (by decide) t40_5
    have f42 := own_castA (us := (own_p 17 [.ref x_292, .ref x_300])) (by rfl) t40_6
    refine own_kP (own_cvi X hx hZ hB (W := 0) hown (W 131 rfl) (W 132 rfl) (W 134 rfl) (W 133 rfl) (W 135 rfl) (W 70 rfl) (by decide) (rm_19 l Z a0 hw [] dc kd cr cc mr hG b278 d_282 ea_282 k_282 (own_p 17 [.ref x_292, .ref x_300]) (0 : Int32) (2 : Int32) _ n0 (own_zO O) O t40_0 t40_1 t40_2 t40_3 t40_4 f41 f42 (by decide)) (by decide) (by decide) rfl t40_0 hml rfl pd_9 rfl rfl rfl at_305 (by decide) (by decide)) rfl rfl fun T X eT => ?_
    refine o_iconst X hx hB at_308 (2) ?_
    refine o_icmpYes X hx hB at_309 (Jvm.Free.XT.ii_eq_t (by decide : ((2 : Int32) - (0 : Int32)) = (2 : Int32))) 314 ?_
    refine o_aload X hx hB at_314 rfl rfl ?_
    refine o_lload X hx hB at_316 rfl ?_
    have f43 := t37_8.keep Kq40
    have z44 := own_ne2 f35.lt t37_11
    have z45 := own_ne2 t33_2.lt t37_11
    have f46 := t37_9.keep Kq40 (ninS (Ne.symm z45) (ninS (Ne.symm z44) nin0))
    have f47 := t37_10.keep Kq40 (ninS (Ne.symm z45) (ninS (Ne.symm z44) nin0))
    refine own_kQ (own_cvi X hx hZ hB (W := 0) hown (W 147 rfl) (W 148 rfl) (W 150 rfl) (W 149 rfl) (W 151 rfl) (W 70 rfl) (by decide) (rm_22_A l Z a0 hw [] dc kd cr cc mr hG b278 ps d_282 ea_282 k_282 (own_p 17 [.ref x_292, .ref x_300]) (0 : Int32) (2 : Int32) x_292 pa b28 _ n0 (own_zO O) O t40_0 t40_1 t40_2 t40_3 t40_4 f41 f42 t40_7 f43 f46 f47 (by decide) ⟨by decide, by decide⟩ (by rfl) hPa) (by decide) (by decide) eT t40_0 hml rfl pd_20 rfl rfl rfl at_318 (by decide) (by decide)) fun v T L48 hQ X => ?_
    obtain ⟨b_318, rfl, Nq48, Kq48, t48_0, t48_1, t48_2, t48_3, t48_4⟩ := hQ
    have g_b_318 := Nat.le_trans (own_zO O) t48_4
    have N := Fr.app N Nq48
    have O := O.keep Kq48 all0
    refine o_astore X hx hB #[.val (.long pa), .second, .val (.long pb), .second, .val (.long ps), .second, .val (.int fl), .val (.int (1 : Int32)), .val (.int (1 : Int32)), .val (.ref b28), .val (.ref b68), .val (.int (0 : Int32)), .val (.int (0 : Int32)), .val (.ref b128), .val (.ref b137), .val (.int ((1 : Int32) + (1 : Int32))), .val (.ref b278), .val (.ref b_318), .unset] at_321 rfl rfl ?_
    refine o_aload X hx hB at_323 rfl rfl ?_
    refine o_aload X hx hB at_325 rfl rfl ?_
    have f49 := ((((((((t20_0.ext E21).keep Kq25).keep Kq26).keep Kq30).ext E31).keep Kq33).keep Kq37).keep Kq40).keep Kq48
    have z50 := own_ne1 t20_0.lt g21
    have z51 := own_ne2 ((t20_0.ext E21).keep Kq25).lt t26_5
    have z52 := own_ne1 ((((t20_0.ext E21).keep Kq25).keep Kq26).keep Kq30).lt g31
    have z53 := own_ne2 (((((t20_0.ext E21).keep Kq25).keep Kq26).keep Kq30).ext E31).lt t33_8
    have z54 := own_ne2 (((((t20_0.ext E21).keep Kq25).keep Kq26).keep Kq30).ext E31).lt t33_7
    have f55 := ((((((((t20_2.ext E21).keep Kq25 (ninS z50 nin0)).keep Kq26 (ninS z50 nin0)).keep Kq30 (ninS z50 (ninS z51 nin0))).ext E31).keep Kq33 (ninS z52 nin0)).keep Kq37 (ninS z54 (ninS z53 nin0))).keep Kq40 (ninS z54 (ninS z53 nin0))).keep Kq48 nin0
    have f56 := ((((((((t20_3.ext E21).keep Kq25 (ninS z50 nin0)).keep Kq26 (ninS z50 nin0)).keep Kq30 (ninS z50 (ninS z51 nin0))).ext E31).keep Kq33 (ninS z52 nin0)).keep Kq37 (ninS z54 (ninS z53 nin0))).keep Kq40 (ninS z54 (ninS z53 nin0))).keep Kq48 nin0
    refine own_kP (own_cst X hx hZ hB (W := 0) hown (W 184 rfl) (W 185 rfl) (W 187 rfl) (W 186 rfl) (by decide) (rm_28_0 l Z a0 hw [] dc kd cr cc mr hG b_318 b128 dc kd [] dc kd [] _ n0 (own_zO O) O t48_0 t48_2 t48_3 f49 f55 f56) (by decide) (by decide) rfl hml rfl pd_22 rfl rfl rfl at_327 (by decide) (by decide)) rfl rfl fun T X eT => ?_
    refine o_ifYes X hx hB at_330 (Jvm.Free.XT.i0_ne_t (by decide : ¬ ((1 : Int32) = 0))) 335 ?_
    refine o_aload X hx hB at_335 rfl rfl ?_
    have f57 := t40_0.keep Kq48
    have f58 := t40_1.keep Kq48 nin0
    have f59 := t40_2.keep Kq48
    have f60 := t40_3.keep Kq48 nin0
    have f61 := t40_4.keep Kq48 nin0
    have f62 := f41.keep Kq48 nin0
    have f63 := f42.keep Kq48 nin0
    refine own_kP (own_cvi X hx hZ hB (W := 0) hown (W 131 rfl) (W 132 rfl) (W 134 rfl) (W 133 rfl) (W 135 rfl) (W 70 rfl) (by decide) (rm_19 l Z a0 hw [] dc kd cr cc mr hG b278 d_282 ea_282 k_282 (own_p 17 [.ref x_292, .ref x_300]) (0 : Int32) (2 : Int32) _ n0 (own_zO O) O f57 f58 f59 f60 f61 f62 f63 (by decide)) (by decide) (by decide) eT f57 hml rfl pd_9 rfl rfl rfl at_337 (by decide) (by decide)) rfl rfl fun T X eT => ?_
    refine o_iload X hx hB at_340 rfl ?_
    refine o_icmpYes X hx hB at_342 (Jvm.Free.XT.ii_eq_t (by decide : ((2 : Int32) - (0 : Int32)) = ((1 : Int32) + (1 : Int32)))) 347 ?_
    refine o_aload X hx hB at_347 rfl rfl ?_
    have f64 := f43.keep Kq48
    have f65 := f46.keep Kq48 nin0
    have f66 := f47.keep Kq48 nin0
    have f67 := ((((((((((((t10_0.ext E11).keep Kq15).ext E16).keep Kq20).ext E21).keep Kq25).keep Kq26).keep Kq30).ext E31).keep Kq33).keep Kq37).keep Kq40).keep Kq48
    have z68 := own_ne1 t10_0.lt g11
    have z69 := own_ne1 ((t10_0.ext E11).keep Kq15).lt g16
    have z70 := own_ne1 ((((t10_0.ext E11).keep Kq15).ext E16).keep Kq20).lt g21
    have z71 := own_ne2 ((((((t10_0.ext E11).keep Kq15).ext E16).keep Kq20).ext E21).keep Kq25).lt t26_5
    have z72 := own_ne1 ((((((((t10_0.ext E11).keep Kq15).ext E16).keep Kq20).ext E21).keep Kq25).keep Kq26).keep Kq30).lt g31
    have z73 := own_ne2 (((((((((t10_0.ext E11).keep Kq15).ext E16).keep Kq20).ext E21).keep Kq25).keep Kq26).keep Kq30).ext E31).lt t33_8
    have z74 := own_ne2 (((((((((t10_0.ext E11).keep Kq15).ext E16).keep Kq20).ext E21).keep Kq25).keep Kq26).keep Kq30).ext E31).lt t33_7
    have f75 := ((((((((((((t10_2.ext E11).keep Kq15 (ninS z68 nin0)).ext E16).keep Kq20 (ninS z69 nin0)).ext E21).keep Kq25 (ninS z70 nin0)).keep Kq26 (ninS z70 nin0)).keep Kq30 (ninS z70 (ninS z71 nin0))).ext E31).keep Kq33 (ninS z72 nin0)).keep Kq37 (ninS z74 (ninS z73 nin0))).keep Kq40 (ninS z74 (ninS z73 nin0))).keep Kq48 nin0
    have f76 := (((((((((((((own_castI (j := (2 : Int32)) (by decide) t10_3).ext E11).keep Kq15 (ninS z68 nin0)).ext E16).keep Kq20 (ninS z69 nin0)).ext E21).keep Kq25 (ninS z70 nin0)).keep Kq26 (ninS z70 nin0)).keep Kq30 (ninS z70 (ninS z71 nin0))).ext E31).keep Kq33 (ninS z72 nin0)).keep Kq37 (ninS z74 (ninS z73 nin0))).keep Kq40 (ninS z74 (ninS z73 nin0))).keep Kq48 nin0
    have z77 := own_ne1 (((own_castA (us := (own_p 10 [.ref i10])) (by rfl) t6_4)).2.2.2.keep Kq10).lt g11
    have z78 := own_ne1 (((((own_castA (us := (own_p 10 [.ref i10])) (by rfl) t6_4)).2.2.2.keep Kq10).ext E11).keep Kq15).lt g16
    have z79 := own_ne1 (((((((own_castA (us := (own_p 10 [.ref i10])) (by rfl) t6_4)).2.2.2.keep Kq10).ext E11).keep Kq15).ext E16).keep Kq20).lt g21
    have z80 := own_ne2 (((((((((own_castA (us := (own_p 10 [.ref i10])) (by rfl) t6_4)).2.2.2.keep Kq10).ext E11).keep Kq15).ext E16).keep Kq20).ext E21).keep Kq25).lt t26_5
    have z81 := own_ne1 (((((((((((own_castA (us := (own_p 10 [.ref i10])) (by rfl) t6_4)).2.2.2.keep Kq10).ext E11).keep Kq15).ext E16).keep Kq20).ext E21).keep Kq25).keep Kq26).keep Kq30).lt g31
    have z82 := own_ne2 ((((((((((((own_castA (us := (own_p 10 [.ref i10])) (by rfl) t6_4)).2.2.2.keep Kq10).ext E11).keep Kq15).ext E16).keep Kq20).ext E21).keep Kq25).keep Kq26).keep Kq30).ext E31).lt t33_8
    have z83 := own_ne2 ((((((((((((own_castA (us := (own_p 10 [.ref i10])) (by rfl) t6_4)).2.2.2.keep Kq10).ext E11).keep Kq15).ext E16).keep Kq20).ext E21).keep Kq25).keep Kq26).keep Kq30).ext E31).lt t33_7
    have f84 := (((((((((((((own_castA (us := (own_p 10 [.ref i10, .ref i11])) (by rfl) t10_4).ext E11).keep Kq15 (ninS z77 nin0)).ext E16).keep Kq20 (ninS z78 nin0)).ext E21).keep Kq25 (ninS z79 nin0)).keep Kq26 (ninS z79 nin0)).keep Kq30 (ninS z79 (ninS z80 nin0))).ext E31).keep Kq33 (ninS z81 nin0)).keep Kq37 (ninS z83 (ninS z82 nin0))).keep Kq40 (ninS z83 (ninS z82 nin0))).keep Kq48 nin0
    have f85 := t40_8.keep Kq48
    have f86 := t40_9.keep Kq48 nin0
    have f87 := t40_10.keep Kq48 nin0
    have f88 := ((((((((((t15_0.ext E16).keep Kq20).ext E21).keep Kq25).keep Kq26).keep Kq30).ext E31).keep Kq33).keep Kq37).keep Kq40).keep Kq48
    have z89 := own_ne1 t15_0.lt g16
    have z90 := own_ne1 ((t15_0.ext E16).keep Kq20).lt g21
    have z91 := own_ne2 ((((t15_0.ext E16).keep Kq20).ext E21).keep Kq25).lt t26_5
    have z92 := own_ne1 ((((((t15_0.ext E16).keep Kq20).ext E21).keep Kq25).keep Kq26).keep Kq30).lt g31
    have z93 := own_ne2 (((((((t15_0.ext E16).keep Kq20).ext E21).keep Kq25).keep Kq26).keep Kq30).ext E31).lt t33_8
    have z94 := own_ne2 (((((((t15_0.ext E16).keep Kq20).ext E21).keep Kq25).keep Kq26).keep Kq30).ext E31).lt t33_7
    have f95 := ((((((((((t15_2.ext E16).keep Kq20 (ninS z89 nin0)).ext E21).keep Kq25 (ninS z90 nin0)).keep Kq26 (ninS z90 nin0)).keep Kq30 (ninS z90 (ninS z91 nin0))).ext E31).keep Kq33 (ninS z92 nin0)).keep Kq37 (ninS z94 (ninS z93 nin0))).keep Kq40 (ninS z94 (ninS z93 nin0))).keep Kq48 nin0
    have f96 := ((((((((((t15_3.ext E16).keep Kq20 (ninS z89 nin0)).ext E21).keep Kq25 (ninS z90 nin0)).keep Kq26 (ninS z90 nin0)).keep Kq30 (ninS z90 (ninS z91 nin0))).ext E31).keep Kq33 (ninS z92 nin0)).keep Kq37 (ninS z94 (ninS z93 nin0))).keep Kq40 (ninS z94 (ninS z93 nin0))).keep Kq48 nin0
    have z97 := own_ne2 t37_8.lt t40_11
    refine own_kQ (own_cvi X hx hZ hB (W := 0) hown (W 196 rfl) (W 197 rfl) (W 199 rfl) (W 198 rfl) (W 200 rfl) (W 70 rfl) (by decide) (rm_30_Ce l Z a0 hw [] dc kd cr cc mr hG b278 d_282 ea_282 k_282 (own_p 17 [.ref x_292, .ref x_300]) (0 : Int32) (2 : Int32) x_292 pa b28 b_44 (2 : Int32) k_44 (own_p 10 [.ref i10, .ref i11]) [Value.ref i10, Value.ref i11] x_300 pb b68 _ n0 (own_zO O) O f57 f58 f59 f60 f61 f62 f63 t40_7 f64 f65 f66 f67 f75 f76 f84 (Ne.symm z82) f85 f86 f87 f88 f95 f96 z97 g_d_282 g_ea_282 (by decide) ⟨by decide, by decide⟩ (by rfl) (own_mx pa) (by decide) (by decide) (by decide) (by decide) (by decide) (by rfl) ⟨rfl, (own_cI hX10 (own_cI hX11 own_nI))⟩ (by decide) (by decide) (by decide) (by decide) ⟨by decide, by decide⟩ (by rfl) (own_mx pb) (by decide) (by decide)) (by decide) (by decide) eT f57 hml rfl pd_18 rfl rfl rfl at_349 (by decide) (by decide)) fun v T L98 hQ X => ?_
    obtain ⟨b_349, eb_349, ke0_349, rfl, Nq98, Kq98, t98_0, t98_1, t98_2, t98_3, t98_4, t98_5, t98_6, t98_7, t98_8, t98_9, t98_10, t98_11, t98_12, t98_13⟩ := hQ
    have g_b_349 := Nat.le_trans (own_zO O) t98_4
    have g_eb_349 := Nat.le_trans (own_zO O) t98_7
    have N := Fr.app N Nq98
    have O := O.keep Kq98 (allS g_d_282 (allS g_ea_282 all0))
    refine o_astore X hx hB #[.val (.long pa), .second, .val (.long pb), .second, .val (.long ps), .second, .val (.int fl), .val (.int (1 : Int32)), .val (.int (1 : Int32)), .val (.ref b28), .val (.ref b68), .val (.int (0 : Int32)), .val (.int (0 : Int32)), .val (.ref b128), .val (.ref b137), .val (.int ((1 : Int32) + (1 : Int32))), .val (.ref b278), .val (.ref b_318), .val (.ref b_349)] at_352 rfl rfl ?_
    refine o_aload X hx hB at_354 rfl rfl ?_
    refine o_aload X hx hB at_356 rfl rfl ?_
    have f99 := own_castI (j := (2 : Int32)) (by decide) t98_3
    have f100 := own_castA (us := (own_p 10 [.ref i10, .ref i11])) (by rfl) t98_5
    have f101 := (((((t30_0.ext E31).keep Kq33).keep Kq37).keep Kq40).keep Kq48).keep Kq98
    have z102 := own_ne1 t30_0.lt g31
    have z103 := own_ne2 (t30_0.ext E31).lt t33_8
    have z104 := own_ne2 (t30_0.ext E31).lt t33_7
    have f105 := (((((t30_2.ext E31).keep Kq33 (ninS z102 nin0)).keep Kq37 (ninS z104 (ninS z103 nin0))).keep Kq40 (ninS z104 (ninS z103 nin0))).keep Kq48 nin0).keep Kq98 (ninS z104 (ninS z103 nin0))
    have f106 := ((((((own_castI (j := (2 : Int32)) (by decide) t30_3).ext E31).keep Kq33 (ninS z102 nin0)).keep Kq37 (ninS z104 (ninS z103 nin0))).keep Kq40 (ninS z104 (ninS z103 nin0))).keep Kq48 nin0).keep Kq98 (ninS z104 (ninS z103 nin0))
    have z107 := own_ne1 (((own_castA (us := (own_p 10 [.ref i10])) (by rfl) t26_4)).2.2.2.keep Kq30).lt g31
    have z108 := own_ne2 ((((own_castA (us := (own_p 10 [.ref i10])) (by rfl) t26_4)).2.2.2.keep Kq30).ext E31).lt t33_8
    have z109 := own_ne2 ((((own_castA (us := (own_p 10 [.ref i10])) (by rfl) t26_4)).2.2.2.keep Kq30).ext E31).lt t33_7
    have f110 := ((((((own_castA (us := (own_p 10 [.ref i10, .ref i11])) (by rfl) t30_4).ext E31).keep Kq33 (ninS z107 nin0)).keep Kq37 (ninS z109 (ninS z108 nin0))).keep Kq40 (ninS z109 (ninS z108 nin0))).keep Kq48 nin0).keep Kq98 (ninS z109 (ninS z108 nin0))
    refine own_kP (own_cst X hx hZ hB (W := 0) hown (W 184 rfl) (W 185 rfl) (W 187 rfl) (W 186 rfl) (by decide) (rm_28_2 l Z a0 hw [] dc kd cr cc mr hG b_349 b137 eb_349 ke0_349 (own_p 10 [.ref i10, .ref i11]) b_192 k_192 (own_p 10 [.ref i10, .ref i11]) i10 vv10 i11 vv11 _ n0 (own_zO O) O t98_0 t98_2 f99 f100 f101 f105 f106 f110 (hX10.ext O.2) (hV10.ext O.2) (hX11.ext O.2) (hV11.ext O.2) (by rfl) (by rfl) (by rfl) (by rfl)) (by decide) (by decide) rfl hml rfl pd_22 rfl rfl rfl at_358 (by decide) (by decide)) rfl rfl fun T X eT => ?_
    refine o_ifYes X hx hB at_361 (Jvm.Free.XT.i0_ne_t (by decide : ¬ ((1 : Int32) = 0))) 366 ?_
    refine o_aload X hx hB at_366 rfl rfl ?_
    have f111 := f57.keep Kq98
    have z112 := own_ne2 A31.lt t33_8
    have z113 := own_ne2 A31.lt t33_7
    have f114 := f58.keep Kq98 (ninS z113 (ninS z112 nin0))
    have f115 := own_castI (j := (2 : Int32)) (by decide) t98_10
    have f116 := own_castA (us := (own_p 17 [.null, .null])) (by rfl) t98_12
    refine own_kP (own_cvi X hx hZ hB (W := 0) hown (W 131 rfl) (W 132 rfl) (W 134 rfl) (W 133 rfl) (W 135 rfl) (W 70 rfl) (by decide) (rm_19 l Z a0 hw [] dc kd cr cc mr hG b278 d_282 ea_282 k_282 (own_p 17 [.null, .null]) (2 : Int32) (2 : Int32) _ n0 (own_zO O) O f111 f114 t98_8 t98_9 f115 t98_11 f116 (by decide)) (by decide) (by decide) eT f111 hml rfl pd_9 rfl rfl rfl at_368 (by decide) (by decide)) rfl rfl fun T X eT => ?_
    refine o_ifNo X hx hB at_371 (Jvm.Free.XT.i0_ne_f (by decide : ((2 : Int32) - (2 : Int32)) = 0)) ?_
    refine o_iconst X hx hB at_374 (1) ?_
    refine o_goto X hx hB at_375 379 ?_
    exact own_retN X hx (t := .boolean) Bd.returns (by simp) (hb hB at_379) (BodyLoose.notSynchronized Bd) (w := (1 : Int32)) rfl ⟨rfl, N⟩ (by decide) (by decide)
  · refine o_ifNo X hx hB at_99 (Jvm.Free.XT.ll_gt_f hPa) ?_
    refine o_iconst X hx hB at_102 (1) ?_
    refine o_goto X hx hB at_103 107 ?_
    refine o_istore X hx hB #[.val (.long pa), .second, .val (.long pb), .second, .val (.long ps), .second, .val (.int fl), .val (.int (1 : Int32)), .val (.int (1 : Int32)), .val (.ref b28), .val (.ref b68), .val (.int (1 : Int32)), .unset, .unset, .unset, .unset, .unset, .unset, .unset] at_107 rfl ?_
    refine o_iload X hx hB at_109 rfl ?_
    refine o_ifNo X hx hB at_111 (Jvm.Free.XT.i0_eq_f (by decide : ¬ ((1 : Int32) = 0))) ?_
    refine o_lloadN X hx hB at_114 rfl ?_
    refine o_lload X hx hB at_115 rfl ?_
    refine o_lcmp X hx hB at_117 ?_
    by_cases hPb : ps < pb
    · refine o_ifYes X hx hB at_118 (Jvm.Free.XT.ll_gt_t hPb) 125 ?_
      refine o_iconst X hx hB at_125 (0) ?_
      refine o_istore X hx hB #[.val (.long pa), .second, .val (.long pb), .second, .val (.long ps), .second, .val (.int fl), .val (.int (1 : Int32)), .val (.int (1 : Int32)), .val (.ref b28), .val (.ref b68), .val (.int (1 : Int32)), .val (.int (0 : Int32)), .unset, .unset, .unset, .unset, .unset, .unset] at_126 rfl ?_
      refine o_new X hx hZ hB hown (W 0 rfl) (W 1 rfl) (W 2 rfl) rfl at_128 (by decide) (by decide) fun T h117 b128 g117 X eT E117 A117 D117 => ?_
      have g_b128 := own_gn O g117
      have O := O.ext E117
      refine o_dup X hx hB at_131 rfl ?_
      have f118 := D117 (Or.inl (W 22 rfl)) (ty := .int) (by decide)
      have f119 := D117 (Or.inl (W 25 rfl)) (ty := (.array (.object "java/lang/Object"))) (by decide)
      have f120 := D117 (Or.inl (W 45 rfl)) (ty := .int) (by decide)
      refine own_kQ (own_csp X hx hZ hB (W := 1) hown rfl (W 3 rfl) (W 4 rfl) (W 5 rfl) (W 2 rfl) (by decide) (rm_1 l Z a0 hw [] dc kd cr cc mr hG b128 (0 : Int32) (0 : Int32) _ n0 (own_zO O) O A117 f118 f119 f120 g_b128) (by decide) (by decide) eT hml rfl pd_0 rfl rfl rfl at_132 (by decide) (by decide)) fun v T L121 hQ X => ?_
      obtain ⟨rfl, Nq121, Kq121, t121_0, t121_1, t121_2, t121_3⟩ := hQ
      have N := Fr.app N Nq121
      have O := O.keep Kq121 (allS g_b128 all0)
      refine o_astore X hx hB #[.val (.long pa), .second, .val (.long pb), .second, .val (.long ps), .second, .val (.int fl), .val (.int (1 : Int32)), .val (.int (1 : Int32)), .val (.ref b28), .val (.ref b68), .val (.int (1 : Int32)), .val (.int (0 : Int32)), .val (.ref b128), .unset, .unset, .unset, .unset, .unset] at_135 rfl rfl ?_
      refine o_new X hx hZ hB hown (W 0 rfl) (W 1 rfl) (W 2 rfl) rfl at_137 (by decide) (by decide) fun T h122 b137 g122 X eT E122 A122 D122 => ?_
      have g_b137 := own_gn O g122
      have O := O.ext E122
      refine o_dup X hx hB at_140 rfl ?_
      have f123 := D122 (Or.inl (W 22 rfl)) (ty := .int) (by decide)
      have f124 := D122 (Or.inl (W 25 rfl)) (ty := (.array (.object "java/lang/Object"))) (by decide)
      have f125 := D122 (Or.inl (W 45 rfl)) (ty := .int) (by decide)
      refine own_kQ (own_csp X hx hZ hB (W := 1) hown rfl (W 3 rfl) (W 4 rfl) (W 5 rfl) (W 2 rfl) (by decide) (rm_1 l Z a0 hw [] dc kd cr cc mr hG b137 (0 : Int32) (0 : Int32) _ n0 (own_zO O) O A122 f123 f124 f125 g_b137) (by decide) (by decide) eT hml rfl pd_0 rfl rfl rfl at_141 (by decide) (by decide)) fun v T L126 hQ X => ?_
      obtain ⟨rfl, Nq126, Kq126, t126_0, t126_1, t126_2, t126_3⟩ := hQ
      have N := Fr.app N Nq126
      have O := O.keep Kq126 (allS g_b137 all0)
      refine o_astore X hx hB #[.val (.long pa), .second, .val (.long pb), .second, .val (.long ps), .second, .val (.int fl), .val (.int (1 : Int32)), .val (.int (1 : Int32)), .val (.ref b28), .val (.ref b68), .val (.int (1 : Int32)), .val (.int (0 : Int32)), .val (.ref b128), .val (.ref b137), .unset, .unset, .unset, .unset] at_144 rfl rfl ?_
      refine o_iload X hx hB at_146 rfl ?_
      refine o_ifNo X hx hB at_148 (Jvm.Free.XT.i0_eq_f (by decide : ¬ ((1 : Int32) = 0))) ?_
      refine o_aload X hx hB at_151 rfl rfl ?_
      refine o_bipush X hx hB at_153 (10) ?_
      refine own_kP (own_cst X hx hZ hB (W := 1) hown (W 26 rfl) (W 27 rfl) (W 29 rfl) (W 28 rfl) (by decide) (rm_5 l Z a0 hw [] dc kd cr cc mr hG (10 : Int32) i10 _ n0 (own_zO O) O (by decide) (by decide) hin10 hs10) (by decide) (by decide) rfl hml rfl pd_21 rfl rfl rfl at_155 (by decide) (by decide)) rfl rfl fun T X eT => ?_
      have f127 := (t121_0.ext E122).keep Kq126
      have z128 := own_ne1 t121_0.lt g122
      have f129 := (t121_1.ext E122).keep Kq126 (ninS z128 nin0)
      have f130 := (t121_2.ext E122).keep Kq126 (ninS z128 nin0)
      have f131 := (t121_3.ext E122).keep Kq126 (ninS z128 nin0)
      refine own_kQ (own_cif X hx hZ hB (W := 0) hown (W 33 rfl) (W 34 rfl) (W 35 rfl) (W 36 rfl) (W 37 rfl) (W 38 rfl) (W 39 rfl) (W 40 rfl) (W 41 rfl) (W 2 rfl) (by decide) (rm_6f l Z a0 hw [] dc kd cr cc mr hG b128 i10 (0 : Int32) _ n0 (own_zO O) O f127 f129 f130 f131 g_b128 hX10) (by decide) (by decide) eT f127 hml rfl pd_7 rfl rfl rfl at_158 (by decide) (by decide)) fun v T L132 hQ X => ?_
      obtain ⟨b_158, k_158, rfl, Nq132, Kq132, t132_0, t132_1, t132_2, t132_3, t132_4, t132_5, t132_6⟩ := hQ
      have g_b_158 := Nat.le_trans (own_zO O) t132_5
      have N := Fr.app N Nq132
      have O := O.keep Kq132 (allS g_b128 all0)
      refine o_pop X hx hB at_163 rfl ?_
      refine o_iload X hx hB at_164 rfl ?_
      refine o_ifNo X hx hB at_166 (Jvm.Free.XT.i0_eq_f (by decide : ¬ ((1 : Int32) = 0))) ?_
      refine o_aload X hx hB at_169 rfl rfl ?_
      refine o_bipush X hx hB at_171 (11) ?_
      refine own_kP (own_cst X hx hZ hB (W := 1) hown (W 26 rfl) (W 27 rfl) (W 29 rfl) (W 28 rfl) (by decide) (rm_5 l Z a0 hw [] dc kd cr cc mr hG (11 : Int32) i11 _ n0 (own_zO O) O (by decide) (by decide) hin11 hs11) (by decide) (by decide) rfl hml rfl pd_21 rfl rfl rfl at_173 (by decide) (by decide)) rfl rfl fun T X eT => ?_
      have f133 := own_castI (j := (1 : Int32)) (by decide) t132_1
      have f134 := own_castI (j := (1 : Int32)) (by decide) t132_3
      have f135 := own_castA (us := (own_p 10 [.ref i10])) (by rfl) t132_4
      refine own_kQ (own_cif X hx hZ hB (W := 0) hown (W 33 rfl) (W 34 rfl) (W 35 rfl) (W 36 rfl) (W 37 rfl) (W 38 rfl) (W 39 rfl) (W 40 rfl) (W 41 rfl) (W 2 rfl) (by decide) (rm_6r l Z a0 hw [] dc kd cr cc mr hG b128 i11 (1 : Int32) b_158 k_158 (own_p 10 [.ref i10]) (1 : Int32) _ n0 (own_zO O) O t132_0 f133 t132_2 f134 f135 t132_6 g_b128 g_b_158 ⟨by decide, by decide⟩ (by decide) hX11) (by decide) (by decide) eT t132_0 hml rfl pd_7 rfl rfl rfl at_176 (by decide) (by decide)) fun v T L136 hQ X => ?_
      obtain ⟨rfl, Nq136, Kq136, t136_0, t136_1, t136_2, t136_3, t136_4, t136_5⟩ := hQ
      have N := Fr.app N Nq136
      have O := O.keep Kq136 (allS g_b128 (allS g_b_158 all0))
      refine o_pop X hx hB at_181 rfl ?_
      refine o_goto X hx hB at_182 216 ?_
      refine o_iload X hx hB at_216 rfl ?_
      refine o_ifYes X hx hB at_218 (Jvm.Free.XT.i0_ne_t (by decide : ¬ ((1 : Int32) = 0))) 255 ?_
      refine o_iload X hx hB at_255 rfl ?_
      refine o_ifNo X hx hB at_257 (Jvm.Free.XT.i0_eq_f (by decide : ¬ ((1 : Int32) = 0))) ?_
      refine o_iconst X hx hB at_260 (0) ?_
      refine o_goto X hx hB at_261 265 ?_
      refine o_iload X hx hB at_265 rfl ?_
      refine o_ifYes X hx hB at_267 (Jvm.Free.XT.i0_eq_t (by decide : (0 : Int32) = 0)) 274 ?_
      refine o_iconst X hx hB at_274 (1) ?_
      refine o_iadd X hx hB at_275 ?_
      refine o_istore X hx hB #[.val (.long pa), .second, .val (.long pb), .second, .val (.long ps), .second, .val (.int fl), .val (.int (1 : Int32)), .val (.int (1 : Int32)), .val (.ref b28), .val (.ref b68), .val (.int (1 : Int32)), .val (.int (0 : Int32)), .val (.ref b128), .val (.ref b137), .val (.int ((0 : Int32) + (1 : Int32))), .unset, .unset, .unset] at_276 rfl ?_
      refine o_new X hx hZ hB hown (W 68 rfl) (W 69 rfl) (W 70 rfl) rfl at_278 (by decide) (by decide) fun T h137 b278 g137 X eT E137 A137 D137 => ?_
      have g_b278 := own_gn O g137
      have O := O.ext E137
      refine o_dup X hx hB at_281 rfl ?_
      have f138 := D137 (Or.inr (W 87 rfl)) (ty := (.object "java/util/Deque")) (by decide)
      refine own_kQ (own_csp X hx hZ hB (W := 1) hown rfl (W 71 rfl) (W 72 rfl) (W 73 rfl) (W 70 rfl) (by decide) (rm_11 l Z a0 hw [] dc kd cr cc mr hG b278 _ n0 (own_zO O) O A137 f138 g_b278) (by decide) (by decide) eT hml rfl pd_0 rfl rfl rfl at_282 (by decide) (by decide)) fun v T L139 hQ X => ?_
      obtain ⟨d_282, ea_282, k_282, rfl, Nq139, Kq139, t139_0, t139_1, t139_2, t139_3, t139_4, t139_5, t139_6, t139_7, t139_8⟩ := hQ
      have g_d_282 := Nat.le_trans (own_zO O) t139_7
      have g_ea_282 := Nat.le_trans (own_zO O) t139_8
      have N := Fr.app N Nq139
      have O := O.keep Kq139 (allS g_b278 all0)
      refine o_astore X hx hB #[.val (.long pa), .second, .val (.long pb), .second, .val (.long ps), .second, .val (.int fl), .val (.int (1 : Int32)), .val (.int (1 : Int32)), .val (.ref b28), .val (.ref b68), .val (.int (1 : Int32)), .val (.int (0 : Int32)), .val (.ref b128), .val (.ref b137), .val (.int ((0 : Int32) + (1 : Int32))), .val (.ref b278), .unset, .unset] at_285 rfl rfl ?_
      refine o_aload X hx hB at_287 rfl rfl ?_
      refine o_lloadN X hx hB at_289 rfl ?_
      refine o_aload X hx hB at_290 rfl rfl ?_
      have f140 := own_castA (us := (own_p 17 [])) (by rfl) t139_6
      have f141 := ((own_castA (us := (own_p 17 [])) (by rfl) t139_6)).2.2.2
      have z142 := Exa.ne t139_2 f141 (by decide)
      refine own_kQ (own_cvi X hx hZ hB (W := 0) hown (W 88 rfl) (W 89 rfl) (W 91 rfl) (W 90 rfl) (W 92 rfl) (W 70 rfl) (by decide) (rm_13 l Z a0 hw [] dc kd cr cc mr hG b278 pa b28 d_282 ea_282 k_282 (own_p 17 []) (0 : Int32) (0 : Int32) _ n0 (own_zO O) O t139_0 t139_1 t139_2 t139_3 t139_4 t139_5 f140 z142 g_d_282 g_ea_282 ⟨by decide, by decide⟩ (by decide) (by decide)) (by decide) (by decide) rfl t139_0 hml rfl pd_6 rfl rfl rfl at_292 (by decide) (by decide)) fun v T L143 hQ X => ?_
      obtain ⟨x_292, rfl, Nq143, Kq143, t143_0, t143_1, t143_2, t143_3, t143_4, t143_5, t143_6, t143_7, t143_8, t143_9, t143_10, t143_11⟩ := hQ
      have g_x_292 := Nat.le_trans (own_zO O) t143_11
      have N := Fr.app N Nq143
      have O := O.keep Kq143 (allS g_d_282 (allS g_ea_282 all0))
      refine o_aload X hx hB at_295 rfl rfl ?_
      refine o_lloadN X hx hB at_297 rfl ?_
      refine o_aload X hx hB at_298 rfl rfl ?_
      have f144 := own_castI (j := (1 : Int32)) (by decide) t143_5
      have f145 := own_castA (us := (own_p 17 [.ref x_292])) (by rfl) t143_6
      refine own_kQ (own_cvi X hx hZ hB (W := 0) hown (W 88 rfl) (W 89 rfl) (W 91 rfl) (W 90 rfl) (W 92 rfl) (W 70 rfl) (by decide) (rm_13 l Z a0 hw [] dc kd cr cc mr hG b278 pb b68 d_282 ea_282 k_282 (own_p 17 [.ref x_292]) (0 : Int32) (1 : Int32) _ n0 (own_zO O) O t143_0 t143_1 t143_2 t143_3 t143_4 f144 f145 t143_7 g_d_282 g_ea_282 ⟨by decide, by decide⟩ (by decide) (by decide)) (by decide) (by decide) rfl t143_0 hml rfl pd_6 rfl rfl rfl at_300 (by decide) (by decide)) fun v T L146 hQ X => ?_
      obtain ⟨x_300, rfl, Nq146, Kq146, t146_0, t146_1, t146_2, t146_3, t146_4, t146_5, t146_6, t146_7, t146_8, t146_9, t146_10, t146_11⟩ := hQ
      have g_x_300 := Nat.le_trans (own_zO O) t146_11
      have N := Fr.app N Nq146
      have O := O.keep Kq146 (allS g_d_282 (allS g_ea_282 all0))
      refine o_aload X hx hB at_303 rfl rfl ?_
      have f147 := own_castI (j := (2 : Int32)) (by decide) t146_5
      have f148 := own_castA (us := (own_p 17 [.ref x_292, .ref x_300])) (by rfl) t146_6
      refine own_kP (own_cvi X hx hZ hB (W := 0) hown (W 131 rfl) (W 132 rfl) (W 134 rfl) (W 133 rfl) (W 135 rfl) (W 70 rfl) (by decide) (rm_19 l Z a0 hw [] dc kd cr cc mr hG b278 d_282 ea_282 k_282 (own_p 17 [.ref x_292, .ref x_300]) (0 : Int32) (2 : Int32) _ n0 (own_zO O) O t146_0 t146_1 t146_2 t146_3 t146_4 f147 f148 (by decide)) (by decide) (by decide) rfl t146_0 hml rfl pd_9 rfl rfl rfl at_305 (by decide) (by decide)) rfl rfl fun T X eT => ?_
      refine o_iconst X hx hB at_308 (2) ?_
      refine o_icmpYes X hx hB at_309 (Jvm.Free.XT.ii_eq_t (by decide : ((2 : Int32) - (0 : Int32)) = (2 : Int32))) 314 ?_
      refine o_aload X hx hB at_314 rfl rfl ?_
      refine o_lload X hx hB at_316 rfl ?_
      have f149 := t143_8.keep Kq146
      have z150 := own_ne2 f141.lt t143_11
      have z151 := own_ne2 t139_2.lt t143_11
      have f152 := t143_9.keep Kq146 (ninS (Ne.symm z151) (ninS (Ne.symm z150) nin0))
      have f153 := t143_10.keep Kq146 (ninS (Ne.symm z151) (ninS (Ne.symm z150) nin0))
      have f154 := (((((((((((t10_0.ext E11).keep Kq15).ext E117).keep Kq121).ext E122).keep Kq126).keep Kq132).keep Kq136).ext E137).keep Kq139).keep Kq143).keep Kq146
      have z155 := own_ne1 t10_0.lt g11
      have z156 := own_ne1 ((t10_0.ext E11).keep Kq15).lt g117
      have z157 := own_ne1 ((((t10_0.ext E11).keep Kq15).ext E117).keep Kq121).lt g122
      have z158 := own_ne2 ((((((t10_0.ext E11).keep Kq15).ext E117).keep Kq121).ext E122).keep Kq126).lt t132_5
      have z159 := own_ne1 ((((((((t10_0.ext E11).keep Kq15).ext E117).keep Kq121).ext E122).keep Kq126).keep Kq132).keep Kq136).lt g137
      have z160 := own_ne2 (((((((((t10_0.ext E11).keep Kq15).ext E117).keep Kq121).ext E122).keep Kq126).keep Kq132).keep Kq136).ext E137).lt t139_8
      have z161 := own_ne2 (((((((((t10_0.ext E11).keep Kq15).ext E117).keep Kq121).ext E122).keep Kq126).keep Kq132).keep Kq136).ext E137).lt t139_7
      have f162 := (((((((((((t10_2.ext E11).keep Kq15 (ninS z155 nin0)).ext E117).keep Kq121 (ninS z156 nin0)).ext E122).keep Kq126 (ninS z157 nin0)).keep Kq132 (ninS z156 nin0)).keep Kq136 (ninS z156 (ninS z158 nin0))).ext E137).keep Kq139 (ninS z159 nin0)).keep Kq143 (ninS z161 (ninS z160 nin0))).keep Kq146 (ninS z161 (ninS z160 nin0))
      have f163 := ((((((((((((own_castI (j := (2 : Int32)) (by decide) t10_3).ext E11).keep Kq15 (ninS z155 nin0)).ext E117).keep Kq121 (ninS z156 nin0)).ext E122).keep Kq126 (ninS z157 nin0)).keep Kq132 (ninS z156 nin0)).keep Kq136 (ninS z156 (ninS z158 nin0))).ext E137).keep Kq139 (ninS z159 nin0)).keep Kq143 (ninS z161 (ninS z160 nin0))).keep Kq146 (ninS z161 (ninS z160 nin0))
      have z164 := own_ne1 (((own_castA (us := (own_p 10 [.ref i10])) (by rfl) t6_4)).2.2.2.keep Kq10).lt g11
      have z165 := own_ne1 (((((own_castA (us := (own_p 10 [.ref i10])) (by rfl) t6_4)).2.2.2.keep Kq10).ext E11).keep Kq15).lt g117
      have z166 := own_ne1 (((((((own_castA (us := (own_p 10 [.ref i10])) (by rfl) t6_4)).2.2.2.keep Kq10).ext E11).keep Kq15).ext E117).keep Kq121).lt g122
      have z167 := own_ne2 (((((((((own_castA (us := (own_p 10 [.ref i10])) (by rfl) t6_4)).2.2.2.keep Kq10).ext E11).keep Kq15).ext E117).keep Kq121).ext E122).keep Kq126).lt t132_5
      have z168 := own_ne1 (((((((((((own_castA (us := (own_p 10 [.ref i10])) (by rfl) t6_4)).2.2.2.keep Kq10).ext E11).keep Kq15).ext E117).keep Kq121).ext E122).keep Kq126).keep Kq132).keep Kq136).lt g137
      have z169 := own_ne2 ((((((((((((own_castA (us := (own_p 10 [.ref i10])) (by rfl) t6_4)).2.2.2.keep Kq10).ext E11).keep Kq15).ext E117).keep Kq121).ext E122).keep Kq126).keep Kq132).keep Kq136).ext E137).lt t139_8
      have z170 := own_ne2 ((((((((((((own_castA (us := (own_p 10 [.ref i10])) (by rfl) t6_4)).2.2.2.keep Kq10).ext E11).keep Kq15).ext E117).keep Kq121).ext E122).keep Kq126).keep Kq132).keep Kq136).ext E137).lt t139_7
      have f171 := ((((((((((((own_castA (us := (own_p 10 [.ref i10, .ref i11])) (by rfl) t10_4).ext E11).keep Kq15 (ninS z164 nin0)).ext E117).keep Kq121 (ninS z165 nin0)).ext E122).keep Kq126 (ninS z166 nin0)).keep Kq132 (ninS z165 nin0)).keep Kq136 (ninS z165 (ninS z167 nin0))).ext E137).keep Kq139 (ninS z168 nin0)).keep Kq143 (ninS z170 (ninS z169 nin0))).keep Kq146 (ninS z170 (ninS z169 nin0))
      refine own_kQ (own_cvi X hx hZ hB (W := 0) hown (W 147 rfl) (W 148 rfl) (W 150 rfl) (W 149 rfl) (W 151 rfl) (W 70 rfl) (by decide) (rm_22_B l Z a0 hw [] dc kd cr cc mr hG b278 ps d_282 ea_282 k_282 (own_p 17 [.ref x_292, .ref x_300]) (0 : Int32) (2 : Int32) x_292 pa b28 b_44 (2 : Int32) k_44 (own_p 10 [.ref i10, .ref i11]) [Value.ref i10, Value.ref i11] x_300 pb b68 _ n0 (own_zO O) O t146_0 t146_1 t146_2 t146_3 t146_4 f147 f148 t146_7 f149 f152 f153 f154 f162 f163 f171 (Ne.symm z169) t146_8 t146_9 t146_10 g_d_282 g_ea_282 (by decide) ⟨by decide, by decide⟩ (by rfl) hPa (by decide) (by decide) (by decide) (by decide) (by decide) (by rfl) ⟨rfl, (own_cI hX10 (own_cI hX11 own_nI))⟩ (by decide) (by decide) (by decide) (by decide) ⟨by decide, by decide⟩ (by rfl) hPb) (by decide) (by decide) eT t146_0 hml rfl pd_20 rfl rfl rfl at_318 (by decide) (by decide)) fun v T L172 hQ X => ?_
      obtain ⟨b_318, eb_318, ke0_318, rfl, Nq172, Kq172, t172_0, t172_1, t172_2, t172_3, t172_4, t172_5, t172_6, t172_7, t172_8, t172_9, t172_10, t172_11, t172_12, t172_13⟩ := hQ
      have g_b_318 := Nat.le_trans (own_zO O) t172_4
      have g_eb_318 := Nat.le_trans (own_zO O) t172_7
      have N := Fr.app N Nq172
      have O := O.keep Kq172 (allS g_d_282 (allS g_ea_282 all0))
      refine o_astore X hx hB #[.val (.long pa), .second, .val (.long pb), .second, .val (.long ps), .second, .val (.int fl), .val (.int (1 : Int32)), .val (.int (1 : Int32)), .val (.ref b28), .val (.ref b68), .val (.int (1 : Int32)), .val (.int (0 : Int32)), .val (.ref b128), .val (.ref b137), .val (.int ((0 : Int32) + (1 : Int32))), .val (.ref b278), .val (.ref b_318), .unset] at_321 rfl rfl ?_
      refine o_aload X hx hB at_323 rfl rfl ?_
      refine o_aload X hx hB at_325 rfl rfl ?_
      have f173 := own_castI (j := (2 : Int32)) (by decide) t172_3
      have f174 := own_castA (us := (own_p 10 [.ref i10, .ref i11])) (by rfl) t172_5
      have f175 := ((((t136_0.ext E137).keep Kq139).keep Kq143).keep Kq146).keep Kq172
      have z176 := own_ne1 t136_0.lt g137
      have z177 := own_ne2 (t136_0.ext E137).lt t139_8
      have z178 := own_ne2 (t136_0.ext E137).lt t139_7
      have f179 := ((((t136_2.ext E137).keep Kq139 (ninS z176 nin0)).keep Kq143 (ninS z178 (ninS z177 nin0))).keep Kq146 (ninS z178 (ninS z177 nin0))).keep Kq172 (ninS z178 (ninS z177 nin0))
      have f180 := (((((own_castI (j := (2 : Int32)) (by decide) t136_3).ext E137).keep Kq139 (ninS z176 nin0)).keep Kq143 (ninS z178 (ninS z177 nin0))).keep Kq146 (ninS z178 (ninS z177 nin0))).keep Kq172 (ninS z178 (ninS z177 nin0))
      have z181 := own_ne1 (((own_castA (us := (own_p 10 [.ref i10])) (by rfl) t132_4)).2.2.2.keep Kq136).lt g137
      have z182 := own_ne2 ((((own_castA (us := (own_p 10 [.ref i10])) (by rfl) t132_4)).2.2.2.keep Kq136).ext E137).lt t139_8
      have z183 := own_ne2 ((((own_castA (us := (own_p 10 [.ref i10])) (by rfl) t132_4)).2.2.2.keep Kq136).ext E137).lt t139_7
      have f184 := (((((own_castA (us := (own_p 10 [.ref i10, .ref i11])) (by rfl) t136_4).ext E137).keep Kq139 (ninS z181 nin0)).keep Kq143 (ninS z183 (ninS z182 nin0))).keep Kq146 (ninS z183 (ninS z182 nin0))).keep Kq172 (ninS z183 (ninS z182 nin0))
      refine own_kP (own_cst X hx hZ hB (W := 0) hown (W 184 rfl) (W 185 rfl) (W 187 rfl) (W 186 rfl) (by decide) (rm_28_2 l Z a0 hw [] dc kd cr cc mr hG b_318 b128 eb_318 ke0_318 (own_p 10 [.ref i10, .ref i11]) b_158 k_158 (own_p 10 [.ref i10, .ref i11]) i10 vv10 i11 vv11 _ n0 (own_zO O) O t172_0 t172_2 f173 f174 f175 f179 f180 f184 (hX10.ext O.2) (hV10.ext O.2) (hX11.ext O.2) (hV11.ext O.2) (by rfl) (by rfl) (by rfl) (by rfl)) (by decide) (by decide) rfl hml rfl pd_22 rfl rfl rfl at_327 (by decide) (by decide)) rfl rfl fun T X eT => ?_
      refine o_ifYes X hx hB at_330 (Jvm.Free.XT.i0_ne_t (by decide : ¬ ((1 : Int32) = 0))) 335 ?_
      refine o_aload X hx hB at_335 rfl rfl ?_
      have f185 := t146_0.keep Kq172
      have z186 := own_ne2 A137.lt t139_8
      have z187 := own_ne2 A137.lt t139_7
      have f188 := t146_1.keep Kq172 (ninS z187 (ninS z186 nin0))
      have f189 := own_castI (j := (1 : Int32)) (by decide) t172_10
      have f190 := own_castA (us := (own_p 17 [.null, .ref x_300])) (by rfl) t172_12
      refine own_kP (own_cvi X hx hZ hB (W := 0) hown (W 131 rfl) (W 132 rfl) (W 134 rfl) (W 133 rfl) (W 135 rfl) (W 70 rfl) (by decide) (rm_19 l Z a0 hw [] dc kd cr cc mr hG b278 d_282 ea_282 k_282 (own_p 17 [.null, .ref x_300]) (1 : Int32) (2 : Int32) _ n0 (own_zO O) O f185 f188 t172_8 t172_9 f189 t172_11 f190 (by decide)) (by decide) (by decide) eT f185 hml rfl pd_9 rfl rfl rfl at_337 (by decide) (by decide)) rfl rfl fun T X eT => ?_
      refine o_iload X hx hB at_340 rfl ?_
      refine o_icmpYes X hx hB at_342 (Jvm.Free.XT.ii_eq_t (by decide : ((2 : Int32) - (1 : Int32)) = ((0 : Int32) + (1 : Int32)))) 347 ?_
      refine o_aload X hx hB at_347 rfl rfl ?_
      have f191 := t146_8.keep Kq172
      have z192 := own_ne2 (f141.keep Kq143).lt t146_11
      have z193 := own_ne2 t143_2.lt t146_11
      have f194 := t146_9.keep Kq172 (ninS (Ne.symm z193) (ninS (Ne.symm z192) nin0))
      have f195 := t146_10.keep Kq172 (ninS (Ne.symm z193) (ninS (Ne.symm z192) nin0))
      have f196 := ((((((((((t15_0.ext E117).keep Kq121).ext E122).keep Kq126).keep Kq132).keep Kq136).ext E137).keep Kq139).keep Kq143).keep Kq146).keep Kq172
      have z197 := own_ne1 t15_0.lt g117
      have z198 := own_ne1 ((t15_0.ext E117).keep Kq121).lt g122
      have z199 := own_ne2 ((((t15_0.ext E117).keep Kq121).ext E122).keep Kq126).lt t132_5
      have z200 := own_ne1 ((((((t15_0.ext E117).keep Kq121).ext E122).keep Kq126).keep Kq132).keep Kq136).lt g137
      have z201 := own_ne2 (((((((t15_0.ext E117).keep Kq121).ext E122).keep Kq126).keep Kq132).keep Kq136).ext E137).lt t139_8
      have z202 := own_ne2 (((((((t15_0.ext E117).keep Kq121).ext E122).keep Kq126).keep Kq132).keep Kq136).ext E137).lt t139_7
      have f203 := ((((((((((t15_2.ext E117).keep Kq121 (ninS z197 nin0)).ext E122).keep Kq126 (ninS z198 nin0)).keep Kq132 (ninS z197 nin0)).keep Kq136 (ninS z197 (ninS z199 nin0))).ext E137).keep Kq139 (ninS z200 nin0)).keep Kq143 (ninS z202 (ninS z201 nin0))).keep Kq146 (ninS z202 (ninS z201 nin0))).keep Kq172 (ninS z202 (ninS z201 nin0))
      have f204 := ((((((((((t15_3.ext E117).keep Kq121 (ninS z197 nin0)).ext E122).keep Kq126 (ninS z198 nin0)).keep Kq132 (ninS z197 nin0)).keep Kq136 (ninS z197 (ninS z199 nin0))).ext E137).keep Kq139 (ninS z200 nin0)).keep Kq143 (ninS z202 (ninS z201 nin0))).keep Kq146 (ninS z202 (ninS z201 nin0))).keep Kq172 (ninS z202 (ninS z201 nin0))
      refine own_kQ (own_cvi X hx hZ hB (W := 0) hown (W 196 rfl) (W 197 rfl) (W 199 rfl) (W 198 rfl) (W 200 rfl) (W 70 rfl) (by decide) (rm_30_1e l Z a0 hw [] dc kd cr cc mr hG b278 d_282 ea_282 k_282 (own_p 17 [.null, .ref x_300]) (1 : Int32) (2 : Int32) x_300 pb b68 _ n0 (own_zO O) O f185 f188 t172_8 t172_9 f189 t172_11 f190 t172_13 f191 f194 f195 f196 f203 f204 g_d_282 g_ea_282 (by decide) ⟨by decide, by decide⟩ (by rfl) (own_mx pb) (by decide) (by decide)) (by decide) (by decide) eT f185 hml rfl pd_18 rfl rfl rfl at_349 (by decide) (by decide)) fun v T L205 hQ X => ?_
      obtain ⟨b_349, rfl, Nq205, Kq205, t205_0, t205_1, t205_2, t205_3, t205_4, t205_5, t205_6, t205_7, t205_8, t205_9, t205_10⟩ := hQ
      have g_b_349 := Nat.le_trans (own_zO O) t205_4
      have N := Fr.app N Nq205
      have O := O.keep Kq205 (allS g_d_282 (allS g_ea_282 all0))
      refine o_astore X hx hB #[.val (.long pa), .second, .val (.long pb), .second, .val (.long ps), .second, .val (.int fl), .val (.int (1 : Int32)), .val (.int (1 : Int32)), .val (.ref b28), .val (.ref b68), .val (.int (1 : Int32)), .val (.int (0 : Int32)), .val (.ref b128), .val (.ref b137), .val (.int ((0 : Int32) + (1 : Int32))), .val (.ref b278), .val (.ref b_318), .val (.ref b_349)] at_352 rfl rfl ?_
      refine o_aload X hx hB at_354 rfl rfl ?_
      refine o_aload X hx hB at_356 rfl rfl ?_
      have f206 := (((((((t126_0.keep Kq132).keep Kq136).ext E137).keep Kq139).keep Kq143).keep Kq146).keep Kq172).keep Kq205
      have z207 := own_ne2 t126_0.lt t132_5
      have z208 := own_ne1 ((t126_0.keep Kq132).keep Kq136).lt g137
      have z209 := own_ne2 (((t126_0.keep Kq132).keep Kq136).ext E137).lt t139_8
      have z210 := own_ne2 (((t126_0.keep Kq132).keep Kq136).ext E137).lt t139_7
      have f211 := (((((((t126_2.keep Kq132 (ninS (Ne.symm z128) nin0)).keep Kq136 (ninS (Ne.symm z128) (ninS z207 nin0))).ext E137).keep Kq139 (ninS z208 nin0)).keep Kq143 (ninS z210 (ninS z209 nin0))).keep Kq146 (ninS z210 (ninS z209 nin0))).keep Kq172 (ninS z210 (ninS z209 nin0))).keep Kq205 (ninS z210 (ninS z209 nin0))
      have f212 := (((((((t126_3.keep Kq132 (ninS (Ne.symm z128) nin0)).keep Kq136 (ninS (Ne.symm z128) (ninS z207 nin0))).ext E137).keep Kq139 (ninS z208 nin0)).keep Kq143 (ninS z210 (ninS z209 nin0))).keep Kq146 (ninS z210 (ninS z209 nin0))).keep Kq172 (ninS z210 (ninS z209 nin0))).keep Kq205 (ninS z210 (ninS z209 nin0))
      refine own_kP (own_cst X hx hZ hB (W := 0) hown (W 184 rfl) (W 185 rfl) (W 187 rfl) (W 186 rfl) (by decide) (rm_28_0 l Z a0 hw [] dc kd cr cc mr hG b_349 b137 dc kd [] dc kd [] _ n0 (own_zO O) O t205_0 t205_2 t205_3 f206 f211 f212) (by decide) (by decide) rfl hml rfl pd_22 rfl rfl rfl at_358 (by decide) (by decide)) rfl rfl fun T X eT => ?_
      refine o_ifYes X hx hB at_361 (Jvm.Free.XT.i0_ne_t (by decide : ¬ ((1 : Int32) = 0))) 366 ?_
      refine o_aload X hx hB at_366 rfl rfl ?_
      have f213 := f185.keep Kq205
      have f214 := f188.keep Kq205 (ninS z187 (ninS z186 nin0))
      have f215 := own_castI (j := (2 : Int32)) (by decide) t205_7
      have f216 := own_castA (us := (own_p 17 [.null, .null])) (by rfl) t205_9
      refine own_kP (own_cvi X hx hZ hB (W := 0) hown (W 131 rfl) (W 132 rfl) (W 134 rfl) (W 133 rfl) (W 135 rfl) (W 70 rfl) (by decide) (rm_19 l Z a0 hw [] dc kd cr cc mr hG b278 d_282 ea_282 k_282 (own_p 17 [.null, .null]) (2 : Int32) (2 : Int32) _ n0 (own_zO O) O f213 f214 t205_5 t205_6 f215 t205_8 f216 (by decide)) (by decide) (by decide) eT f213 hml rfl pd_9 rfl rfl rfl at_368 (by decide) (by decide)) rfl rfl fun T X eT => ?_
      refine o_ifNo X hx hB at_371 (Jvm.Free.XT.i0_ne_f (by decide : ((2 : Int32) - (2 : Int32)) = 0)) ?_
      refine o_iconst X hx hB at_374 (1) ?_
      refine o_goto X hx hB at_375 379 ?_
      exact own_retN X hx (t := .boolean) Bd.returns (by simp) (hb hB at_379) (BodyLoose.notSynchronized Bd) (w := (1 : Int32)) rfl ⟨rfl, N⟩ (by decide) (by decide)
    · refine o_ifNo X hx hB at_118 (Jvm.Free.XT.ll_gt_f hPb) ?_
      refine o_iconst X hx hB at_121 (1) ?_
      refine o_goto X hx hB at_122 126 ?_
      refine o_istore X hx hB #[.val (.long pa), .second, .val (.long pb), .second, .val (.long ps), .second, .val (.int fl), .val (.int (1 : Int32)), .val (.int (1 : Int32)), .val (.ref b28), .val (.ref b68), .val (.int (1 : Int32)), .val (.int (1 : Int32)), .unset, .unset, .unset, .unset, .unset, .unset] at_126 rfl ?_
      refine o_new X hx hZ hB hown (W 0 rfl) (W 1 rfl) (W 2 rfl) rfl at_128 (by decide) (by decide) fun T h217 b128 g217 X eT E217 A217 D217 => ?_
      have g_b128 := own_gn O g217
      have O := O.ext E217
      refine o_dup X hx hB at_131 rfl ?_
      have f218 := D217 (Or.inl (W 22 rfl)) (ty := .int) (by decide)
      have f219 := D217 (Or.inl (W 25 rfl)) (ty := (.array (.object "java/lang/Object"))) (by decide)
      have f220 := D217 (Or.inl (W 45 rfl)) (ty := .int) (by decide)
      refine own_kQ (own_csp X hx hZ hB (W := 1) hown rfl (W 3 rfl) (W 4 rfl) (W 5 rfl) (W 2 rfl) (by decide) (rm_1 l Z a0 hw [] dc kd cr cc mr hG b128 (0 : Int32) (0 : Int32) _ n0 (own_zO O) O A217 f218 f219 f220 g_b128) (by decide) (by decide) eT hml rfl pd_0 rfl rfl rfl at_132 (by decide) (by decide)) fun v T L221 hQ X => ?_
      obtain ⟨rfl, Nq221, Kq221, t221_0, t221_1, t221_2, t221_3⟩ := hQ
      have N := Fr.app N Nq221
      have O := O.keep Kq221 (allS g_b128 all0)
      refine o_astore X hx hB #[.val (.long pa), .second, .val (.long pb), .second, .val (.long ps), .second, .val (.int fl), .val (.int (1 : Int32)), .val (.int (1 : Int32)), .val (.ref b28), .val (.ref b68), .val (.int (1 : Int32)), .val (.int (1 : Int32)), .val (.ref b128), .unset, .unset, .unset, .unset, .unset] at_135 rfl rfl ?_
      refine o_new X hx hZ hB hown (W 0 rfl) (W 1 rfl) (W 2 rfl) rfl at_137 (by decide) (by decide) fun T h222 b137 g222 X eT E222 A222 D222 => ?_
      have g_b137 := own_gn O g222
      have O := O.ext E222
      refine o_dup X hx hB at_140 rfl ?_
      have f223 := D222 (Or.inl (W 22 rfl)) (ty := .int) (by decide)
      have f224 := D222 (Or.inl (W 25 rfl)) (ty := (.array (.object "java/lang/Object"))) (by decide)
      have f225 := D222 (Or.inl (W 45 rfl)) (ty := .int) (by decide)
      refine own_kQ (own_csp X hx hZ hB (W := 1) hown rfl (W 3 rfl) (W 4 rfl) (W 5 rfl) (W 2 rfl) (by decide) (rm_1 l Z a0 hw [] dc kd cr cc mr hG b137 (0 : Int32) (0 : Int32) _ n0 (own_zO O) O A222 f223 f224 f225 g_b137) (by decide) (by decide) eT hml rfl pd_0 rfl rfl rfl at_141 (by decide) (by decide)) fun v T L226 hQ X => ?_
      obtain ⟨rfl, Nq226, Kq226, t226_0, t226_1, t226_2, t226_3⟩ := hQ
      have N := Fr.app N Nq226
      have O := O.keep Kq226 (allS g_b137 all0)
      refine o_astore X hx hB #[.val (.long pa), .second, .val (.long pb), .second, .val (.long ps), .second, .val (.int fl), .val (.int (1 : Int32)), .val (.int (1 : Int32)), .val (.ref b28), .val (.ref b68), .val (.int (1 : Int32)), .val (.int (1 : Int32)), .val (.ref b128), .val (.ref b137), .unset, .unset, .unset, .unset] at_144 rfl rfl ?_
      refine o_iload X hx hB at_146 rfl ?_
      refine o_ifNo X hx hB at_148 (Jvm.Free.XT.i0_eq_f (by decide : ¬ ((1 : Int32) = 0))) ?_
      refine o_aload X hx hB at_151 rfl rfl ?_
      refine o_bipush X hx hB at_153 (10) ?_
      refine own_kP (own_cst X hx hZ hB (W := 1) hown (W 26 rfl) (W 27 rfl) (W 29 rfl) (W 28 rfl) (by decide) (rm_5 l Z a0 hw [] dc kd cr cc mr hG (10 : Int32) i10 _ n0 (own_zO O) O (by decide) (by decide) hin10 hs10) (by decide) (by decide) rfl hml rfl pd_21 rfl rfl rfl at_155 (by decide) (by decide)) rfl rfl fun T X eT => ?_
      have f227 := (t221_0.ext E222).keep Kq226
      have z228 := own_ne1 t221_0.lt g222
      have f229 := (t221_1.ext E222).keep Kq226 (ninS z228 nin0)
      have f230 := (t221_2.ext E222).keep Kq226 (ninS z228 nin0)
      have f231 := (t221_3.ext E222).keep Kq226 (ninS z228 nin0)
      refine own_kQ (own_cif X hx hZ hB (W := 0) hown (W 33 rfl) (W 34 rfl) (W 35 rfl) (W 36 rfl) (W 37 rfl) (W 38 rfl) (W 39 rfl) (W 40 rfl) (W 41 rfl) (W 2 rfl) (by decide) (rm_6f l Z a0 hw [] dc kd cr cc mr hG b128 i10 (0 : Int32) _ n0 (own_zO O) O f227 f229 f230 f231 g_b128 hX10) (by decide) (by decide) eT f227 hml rfl pd_7 rfl rfl rfl at_158 (by decide) (by decide)) fun v T L232 hQ X => ?_
      obtain ⟨b_158, k_158, rfl, Nq232, Kq232, t232_0, t232_1, t232_2, t232_3, t232_4, t232_5, t232_6⟩ := hQ
      have g_b_158 := Nat.le_trans (own_zO O) t232_5
      have N := Fr.app N Nq232
      have O := O.keep Kq232 (allS g_b128 all0)
      refine o_pop X hx hB at_163 rfl ?_
      refine o_iload X hx hB at_164 rfl ?_
      refine o_ifNo X hx hB at_166 (Jvm.Free.XT.i0_eq_f (by decide : ¬ ((1 : Int32) = 0))) ?_
      refine o_aload X hx hB at_169 rfl rfl ?_
      refine o_bipush X hx hB at_171 (11) ?_
      refine own_kP (own_cst X hx hZ hB (W := 1) hown (W 26 rfl) (W 27 rfl) (W 29 rfl) (W 28 rfl) (by decide) (rm_5 l Z a0 hw [] dc kd cr cc mr hG (11 : Int32) i11 _ n0 (own_zO O) O (by decide) (by decide) hin11 hs11) (by decide) (by decide) rfl hml rfl pd_21 rfl rfl rfl at_173 (by decide) (by decide)) rfl rfl fun T X eT => ?_
      have f233 := own_castI (j := (1 : Int32)) (by decide) t232_1
      have f234 := own_castI (j := (1 : Int32)) (by decide) t232_3
      have f235 := own_castA (us := (own_p 10 [.ref i10])) (by rfl) t232_4
      refine own_kQ (own_cif X hx hZ hB (W := 0) hown (W 33 rfl) (W 34 rfl) (W 35 rfl) (W 36 rfl) (W 37 rfl) (W 38 rfl) (W 39 rfl) (W 40 rfl) (W 41 rfl) (W 2 rfl) (by decide) (rm_6r l Z a0 hw [] dc kd cr cc mr hG b128 i11 (1 : Int32) b_158 k_158 (own_p 10 [.ref i10]) (1 : Int32) _ n0 (own_zO O) O t232_0 f233 t232_2 f234 f235 t232_6 g_b128 g_b_158 ⟨by decide, by decide⟩ (by decide) hX11) (by decide) (by decide) eT t232_0 hml rfl pd_7 rfl rfl rfl at_176 (by decide) (by decide)) fun v T L236 hQ X => ?_
      obtain ⟨rfl, Nq236, Kq236, t236_0, t236_1, t236_2, t236_3, t236_4, t236_5⟩ := hQ
      have N := Fr.app N Nq236
      have O := O.keep Kq236 (allS g_b128 (allS g_b_158 all0))
      refine o_pop X hx hB at_181 rfl ?_
      refine o_goto X hx hB at_182 216 ?_
      refine o_iload X hx hB at_216 rfl ?_
      refine o_ifYes X hx hB at_218 (Jvm.Free.XT.i0_ne_t (by decide : ¬ ((1 : Int32) = 0))) 255 ?_
      refine o_iload X hx hB at_255 rfl ?_
      refine o_ifNo X hx hB at_257 (Jvm.Free.XT.i0_eq_f (by decide : ¬ ((1 : Int32) = 0))) ?_
      refine o_iconst X hx hB at_260 (0) ?_
      refine o_goto X hx hB at_261 265 ?_
      refine o_iload X hx hB at_265 rfl ?_
      refine o_ifNo X hx hB at_267 (Jvm.Free.XT.i0_eq_f (by decide : ¬ ((1 : Int32) = 0))) ?_
      refine o_iconst X hx hB at_270 (0) ?_
      refine o_goto X hx hB at_271 275 ?_
      refine o_iadd X hx hB at_275 ?_
      refine o_istore X hx hB #[.val (.long pa), .second, .val (.long pb), .second, .val (.long ps), .second, .val (.int fl), .val (.int (1 : Int32)), .val (.int (1 : Int32)), .val (.ref b28), .val (.ref b68), .val (.int (1 : Int32)), .val (.int (1 : Int32)), .val (.ref b128), .val (.ref b137), .val (.int ((0 : Int32) + (0 : Int32))), .unset, .unset, .unset] at_276 rfl ?_
      refine o_new X hx hZ hB hown (W 68 rfl) (W 69 rfl) (W 70 rfl) rfl at_278 (by decide) (by decide) fun T h237 b278 g237 X eT E237 A237 D237 => ?_
      have g_b278 := own_gn O g237
      have O := O.ext E237
      refine o_dup X hx hB at_281 rfl ?_
      have f238 := D237 (Or.inr (W 87 rfl)) (ty := (.object "java/util/Deque")) (by decide)
      refine own_kQ (own_csp X hx hZ hB (W := 1) hown rfl (W 71 rfl) (W 72 rfl) (W 73 rfl) (W 70 rfl) (by decide) (rm_11 l Z a0 hw [] dc kd cr cc mr hG b278 _ n0 (own_zO O) O A237 f238 g_b278) (by decide) (by decide) eT hml rfl pd_0 rfl rfl rfl at_282 (by decide) (by decide)) fun v T L239 hQ X => ?_
      obtain ⟨d_282, ea_282, k_282, rfl, Nq239, Kq239, t239_0, t239_1, t239_2, t239_3, t239_4, t239_5, t239_6, t239_7, t239_8⟩ := hQ
      have g_d_282 := Nat.le_trans (own_zO O) t239_7
      have g_ea_282 := Nat.le_trans (own_zO O) t239_8
      have N := Fr.app N Nq239
      have O := O.keep Kq239 (allS g_b278 all0)
      refine o_astore X hx hB #[.val (.long pa), .second, .val (.long pb), .second, .val (.long ps), .second, .val (.int fl), .val (.int (1 : Int32)), .val (.int (1 : Int32)), .val (.ref b28), .val (.ref b68), .val (.int (1 : Int32)), .val (.int (1 : Int32)), .val (.ref b128), .val (.ref b137), .val (.int ((0 : Int32) + (0 : Int32))), .val (.ref b278), .unset, .unset] at_285 rfl rfl ?_
      refine o_aload X hx hB at_287 rfl rfl ?_
      refine o_lloadN X hx hB at_289 rfl ?_
      refine o_aload X hx hB at_290 rfl rfl ?_
      have f240 := own_castA (us := (own_p 17 [])) (by rfl) t239_6
      have f241 := ((own_castA (us := (own_p 17 [])) (by rfl) t239_6)).2.2.2
      have z242 := Exa.ne t239_2 f241 (by decide)
      refine own_kQ (own_cvi X hx hZ hB (W := 0) hown (W 88 rfl) (W 89 rfl) (W 91 rfl) (W 90 rfl) (W 92 rfl) (W 70 rfl) (by decide) (rm_13 l Z a0 hw [] dc kd cr cc mr hG b278 pa b28 d_282 ea_282 k_282 (own_p 17 []) (0 : Int32) (0 : Int32) _ n0 (own_zO O) O t239_0 t239_1 t239_2 t239_3 t239_4 t239_5 f240 z242 g_d_282 g_ea_282 ⟨by decide, by decide⟩ (by decide) (by decide)) (by decide) (by decide) rfl t239_0 hml rfl pd_6 rfl rfl rfl at_292 (by decide) (by decide)) fun v T L243 hQ X => ?_
      obtain ⟨x_292, rfl, Nq243, Kq243, t243_0, t243_1, t243_2, t243_3, t243_4, t243_5, t243_6, t243_7, t243_8, t243_9, t243_10, t243_11⟩ := hQ
      have g_x_292 := Nat.le_trans (own_zO O) t243_11
      have N := Fr.app N Nq243
      have O := O.keep Kq243 (allS g_d_282 (allS g_ea_282 all0))
      refine o_aload X hx hB at_295 rfl rfl ?_
      refine o_lloadN X hx hB at_297 rfl ?_
      refine o_aload X hx hB at_298 rfl rfl ?_
      have f244 := own_castI (j := (1 : Int32)) (by decide) t243_5
      have f245 := own_castA (us := (own_p 17 [.ref x_292])) (by rfl) t243_6
      refine own_kQ (own_cvi X hx hZ hB (W := 0) hown (W 88 rfl) (W 89 rfl) (W 91 rfl) (W 90 rfl) (W 92 rfl) (W 70 rfl) (by decide) (rm_13 l Z a0 hw [] dc kd cr cc mr hG b278 pb b68 d_282 ea_282 k_282 (own_p 17 [.ref x_292]) (0 : Int32) (1 : Int32) _ n0 (own_zO O) O t243_0 t243_1 t243_2 t243_3 t243_4 f244 f245 t243_7 g_d_282 g_ea_282 ⟨by decide, by decide⟩ (by decide) (by decide)) (by decide) (by decide) rfl t243_0 hml rfl pd_6 rfl rfl rfl at_300 (by decide) (by decide)) fun v T L246 hQ X => ?_
      obtain ⟨x_300, rfl, Nq246, Kq246, t246_0, t246_1, t246_2, t246_3, t246_4, t246_5, t246_6, t246_7, t246_8, t246_9, t246_10, t246_11⟩ := hQ
      have g_x_300 := Nat.le_trans (own_zO O) t246_11
      have N := Fr.app N Nq246
      have O := O.keep Kq246 (allS g_d_282 (allS g_ea_282 all0))
      refine o_aload X hx hB at_303 rfl rfl ?_
      have f247 := own_castI (j := (2 : Int32)) (by decide) t246_5
      have f248 := own_castA (us := (own_p 17 [.ref x_292, .ref x_300])) (by rfl) t246_6
      refine own_kP (own_cvi X hx hZ hB (W := 0) hown (W 131 rfl) (W 132 rfl) (W 134 rfl) (W 133 rfl) (W 135 rfl) (W 70 rfl) (by decide) (rm_19 l Z a0 hw [] dc kd cr cc mr hG b278 d_282 ea_282 k_282 (own_p 17 [.ref x_292, .ref x_300]) (0 : Int32) (2 : Int32) _ n0 (own_zO O) O t246_0 t246_1 t246_2 t246_3 t246_4 f247 f248 (by decide)) (by decide) (by decide) rfl t246_0 hml rfl pd_9 rfl rfl rfl at_305 (by decide) (by decide)) rfl rfl fun T X eT => ?_
      refine o_iconst X hx hB at_308 (2) ?_
      refine o_icmpYes X hx hB at_309 (Jvm.Free.XT.ii_eq_t (by decide : ((2 : Int32) - (0 : Int32)) = (2 : Int32))) 314 ?_
      refine o_aload X hx hB at_314 rfl rfl ?_
      refine o_lload X hx hB at_316 rfl ?_
      have f249 := t243_8.keep Kq246
      have z250 := own_ne2 f241.lt t243_11
      have z251 := own_ne2 t239_2.lt t243_11
      have f252 := t243_9.keep Kq246 (ninS (Ne.symm z251) (ninS (Ne.symm z250) nin0))
      have f253 := t243_10.keep Kq246 (ninS (Ne.symm z251) (ninS (Ne.symm z250) nin0))
      have f254 := (((((((((((t10_0.ext E11).keep Kq15).ext E217).keep Kq221).ext E222).keep Kq226).keep Kq232).keep Kq236).ext E237).keep Kq239).keep Kq243).keep Kq246
      have z255 := own_ne1 t10_0.lt g11
      have z256 := own_ne1 ((t10_0.ext E11).keep Kq15).lt g217
      have z257 := own_ne1 ((((t10_0.ext E11).keep Kq15).ext E217).keep Kq221).lt g222
      have z258 := own_ne2 ((((((t10_0.ext E11).keep Kq15).ext E217).keep Kq221).ext E222).keep Kq226).lt t232_5
      have z259 := own_ne1 ((((((((t10_0.ext E11).keep Kq15).ext E217).keep Kq221).ext E222).keep Kq226).keep Kq232).keep Kq236).lt g237
      have z260 := own_ne2 (((((((((t10_0.ext E11).keep Kq15).ext E217).keep Kq221).ext E222).keep Kq226).keep Kq232).keep Kq236).ext E237).lt t239_8
      have z261 := own_ne2 (((((((((t10_0.ext E11).keep Kq15).ext E217).keep Kq221).ext E222).keep Kq226).keep Kq232).keep Kq236).ext E237).lt t239_7
      have f262 := (((((((((((t10_2.ext E11).keep Kq15 (ninS z255 nin0)).ext E217).keep Kq221 (ninS z256 nin0)).ext E222).keep Kq226 (ninS z257 nin0)).keep Kq232 (ninS z256 nin0)).keep Kq236 (ninS z256 (ninS z258 nin0))).ext E237).keep Kq239 (ninS z259 nin0)).keep Kq243 (ninS z261 (ninS z260 nin0))).keep Kq246 (ninS z261 (ninS z260 nin0))
      have f263 := ((((((((((((own_castI (j := (2 : Int32)) (by decide) t10_3).ext E11).keep Kq15 (ninS z255 nin0)).ext E217).keep Kq221 (ninS z256 nin0)).ext E222).keep Kq226 (ninS z257 nin0)).keep Kq232 (ninS z256 nin0)).keep Kq236 (ninS z256 (ninS z258 nin0))).ext E237).keep Kq239 (ninS z259 nin0)).keep Kq243 (ninS z261 (ninS z260 nin0))).keep Kq246 (ninS z261 (ninS z260 nin0))
      have z264 := own_ne1 (((own_castA (us := (own_p 10 [.ref i10])) (by rfl) t6_4)).2.2.2.keep Kq10).lt g11
      have z265 := own_ne1 (((((own_castA (us := (own_p 10 [.ref i10])) (by rfl) t6_4)).2.2.2.keep Kq10).ext E11).keep Kq15).lt g217
      have z266 := own_ne1 (((((((own_castA (us := (own_p 10 [.ref i10])) (by rfl) t6_4)).2.2.2.keep Kq10).ext E11).keep Kq15).ext E217).keep Kq221).lt g222
      have z267 := own_ne2 (((((((((own_castA (us := (own_p 10 [.ref i10])) (by rfl) t6_4)).2.2.2.keep Kq10).ext E11).keep Kq15).ext E217).keep Kq221).ext E222).keep Kq226).lt t232_5
      have z268 := own_ne1 (((((((((((own_castA (us := (own_p 10 [.ref i10])) (by rfl) t6_4)).2.2.2.keep Kq10).ext E11).keep Kq15).ext E217).keep Kq221).ext E222).keep Kq226).keep Kq232).keep Kq236).lt g237
      have z269 := own_ne2 ((((((((((((own_castA (us := (own_p 10 [.ref i10])) (by rfl) t6_4)).2.2.2.keep Kq10).ext E11).keep Kq15).ext E217).keep Kq221).ext E222).keep Kq226).keep Kq232).keep Kq236).ext E237).lt t239_8
      have z270 := own_ne2 ((((((((((((own_castA (us := (own_p 10 [.ref i10])) (by rfl) t6_4)).2.2.2.keep Kq10).ext E11).keep Kq15).ext E217).keep Kq221).ext E222).keep Kq226).keep Kq232).keep Kq236).ext E237).lt t239_7
      have f271 := ((((((((((((own_castA (us := (own_p 10 [.ref i10, .ref i11])) (by rfl) t10_4).ext E11).keep Kq15 (ninS z264 nin0)).ext E217).keep Kq221 (ninS z265 nin0)).ext E222).keep Kq226 (ninS z266 nin0)).keep Kq232 (ninS z265 nin0)).keep Kq236 (ninS z265 (ninS z267 nin0))).ext E237).keep Kq239 (ninS z268 nin0)).keep Kq243 (ninS z270 (ninS z269 nin0))).keep Kq246 (ninS z270 (ninS z269 nin0))
      have f272 := (((((((((t15_0.ext E217).keep Kq221).ext E222).keep Kq226).keep Kq232).keep Kq236).ext E237).keep Kq239).keep Kq243).keep Kq246
      have z273 := own_ne1 t15_0.lt g217
      have z274 := own_ne1 ((t15_0.ext E217).keep Kq221).lt g222
      have z275 := own_ne2 ((((t15_0.ext E217).keep Kq221).ext E222).keep Kq226).lt t232_5
      have z276 := own_ne1 ((((((t15_0.ext E217).keep Kq221).ext E222).keep Kq226).keep Kq232).keep Kq236).lt g237
      have z277 := own_ne2 (((((((t15_0.ext E217).keep Kq221).ext E222).keep Kq226).keep Kq232).keep Kq236).ext E237).lt t239_8
      have z278 := own_ne2 (((((((t15_0.ext E217).keep Kq221).ext E222).keep Kq226).keep Kq232).keep Kq236).ext E237).lt t239_7
      have f279 := (((((((((t15_2.ext E217).keep Kq221 (ninS z273 nin0)).ext E222).keep Kq226 (ninS z274 nin0)).keep Kq232 (ninS z273 nin0)).keep Kq236 (ninS z273 (ninS z275 nin0))).ext E237).keep Kq239 (ninS z276 nin0)).keep Kq243 (ninS z278 (ninS z277 nin0))).keep Kq246 (ninS z278 (ninS z277 nin0))
      have f280 := (((((((((t15_3.ext E217).keep Kq221 (ninS z273 nin0)).ext E222).keep Kq226 (ninS z274 nin0)).keep Kq232 (ninS z273 nin0)).keep Kq236 (ninS z273 (ninS z275 nin0))).ext E237).keep Kq239 (ninS z276 nin0)).keep Kq243 (ninS z278 (ninS z277 nin0))).keep Kq246 (ninS z278 (ninS z277 nin0))
      have z281 := own_ne2 t243_8.lt t246_11
      refine own_kQ (own_cvi X hx hZ hB (W := 0) hown (W 147 rfl) (W 148 rfl) (W 150 rfl) (W 149 rfl) (W 151 rfl) (W 70 rfl) (by decide) (rm_22_Ce l Z a0 hw [] dc kd cr cc mr hG b278 ps d_282 ea_282 k_282 (own_p 17 [.ref x_292, .ref x_300]) (0 : Int32) (2 : Int32) x_292 pa b28 b_44 (2 : Int32) k_44 (own_p 10 [.ref i10, .ref i11]) [Value.ref i10, Value.ref i11] x_300 pb b68 _ n0 (own_zO O) O t246_0 t246_1 t246_2 t246_3 t246_4 f247 f248 t246_7 f249 f252 f253 f254 f262 f263 f271 (Ne.symm z269) t246_8 t246_9 t246_10 f272 f279 f280 z281 g_d_282 g_ea_282 (by decide) ⟨by decide, by decide⟩ (by rfl) hPa (by decide) (by decide) (by decide) (by decide) (by decide) (by rfl) ⟨rfl, (own_cI hX10 (own_cI hX11 own_nI))⟩ (by decide) (by decide) (by decide) (by decide) ⟨by decide, by decide⟩ (by rfl) hPb (by decide) (by decide)) (by decide) (by decide) eT t246_0 hml rfl pd_20 rfl rfl rfl at_318 (by decide) (by decide)) fun v T L282 hQ X => ?_
      obtain ⟨b_318, eb_318, ke0_318, rfl, Nq282, Kq282, t282_0, t282_1, t282_2, t282_3, t282_4, t282_5, t282_6, t282_7, t282_8, t282_9, t282_10, t282_11, t282_12, t282_13⟩ := hQ
      have g_b_318 := Nat.le_trans (own_zO O) t282_4
      have g_eb_318 := Nat.le_trans (own_zO O) t282_7
      have N := Fr.app N Nq282
      have O := O.keep Kq282 (allS g_d_282 (allS g_ea_282 all0))
      refine o_astore X hx hB #[.val (.long pa), .second, .val (.long pb), .second, .val (.long ps), .second, .val (.int fl), .val (.int (1 : Int32)), .val (.int (1 : Int32)), .val (.ref b28), .val (.ref b68), .val (.int (1 : Int32)), .val (.int (1 : Int32)), .val (.ref b128), .val (.ref b137), .val (.int ((0 : Int32) + (0 : Int32))), .val (.ref b278), .val (.ref b_318), .unset] at_321 rfl rfl ?_
      refine o_aload X hx hB at_323 rfl rfl ?_
      refine o_aload X hx hB at_325 rfl rfl ?_
      have f283 := own_castI (j := (2 : Int32)) (by decide) t282_3
      have f284 := own_castA (us := (own_p 10 [.ref i10, .ref i11])) (by rfl) t282_5
      have f285 := ((((t236_0.ext E237).keep Kq239).keep Kq243).keep Kq246).keep Kq282
      have z286 := own_ne1 t236_0.lt g237
      have z287 := own_ne2 (t236_0.ext E237).lt t239_8
      have z288 := own_ne2 (t236_0.ext E237).lt t239_7
      have f289 := ((((t236_2.ext E237).keep Kq239 (ninS z286 nin0)).keep Kq243 (ninS z288 (ninS z287 nin0))).keep Kq246 (ninS z288 (ninS z287 nin0))).keep Kq282 (ninS z288 (ninS z287 nin0))
      have f290 := (((((own_castI (j := (2 : Int32)) (by decide) t236_3).ext E237).keep Kq239 (ninS z286 nin0)).keep Kq243 (ninS z288 (ninS z287 nin0))).keep Kq246 (ninS z288 (ninS z287 nin0))).keep Kq282 (ninS z288 (ninS z287 nin0))
      have z291 := own_ne1 (((own_castA (us := (own_p 10 [.ref i10])) (by rfl) t232_4)).2.2.2.keep Kq236).lt g237
      have z292 := own_ne2 ((((own_castA (us := (own_p 10 [.ref i10])) (by rfl) t232_4)).2.2.2.keep Kq236).ext E237).lt t239_8
      have z293 := own_ne2 ((((own_castA (us := (own_p 10 [.ref i10])) (by rfl) t232_4)).2.2.2.keep Kq236).ext E237).lt t239_7
      have f294 := (((((own_castA (us := (own_p 10 [.ref i10, .ref i11])) (by rfl) t236_4).ext E237).keep Kq239 (ninS z291 nin0)).keep Kq243 (ninS z293 (ninS z292 nin0))).keep Kq246 (ninS z293 (ninS z292 nin0))).keep Kq282 (ninS z293 (ninS z292 nin0))
      refine own_kP (own_cst X hx hZ hB (W := 0) hown (W 184 rfl) (W 185 rfl) (W 187 rfl) (W 186 rfl) (by decide) (rm_28_2 l Z a0 hw [] dc kd cr cc mr hG b_318 b128 eb_318 ke0_318 (own_p 10 [.ref i10, .ref i11]) b_158 k_158 (own_p 10 [.ref i10, .ref i11]) i10 vv10 i11 vv11 _ n0 (own_zO O) O t282_0 t282_2 f283 f284 f285 f289 f290 f294 (hX10.ext O.2) (hV10.ext O.2) (hX11.ext O.2) (hV11.ext O.2) (by rfl) (by rfl) (by rfl) (by rfl)) (by decide) (by decide) rfl hml rfl pd_22 rfl rfl rfl at_327 (by decide) (by decide)) rfl rfl fun T X eT => ?_
      refine o_ifYes X hx hB at_330 (Jvm.Free.XT.i0_ne_t (by decide : ¬ ((1 : Int32) = 0))) 335 ?_
      refine o_aload X hx hB at_335 rfl rfl ?_
      have f295 := t246_0.keep Kq282
      have z296 := own_ne2 A237.lt t239_8
      have z297 := own_ne2 A237.lt t239_7
      have f298 := t246_1.keep Kq282 (ninS z297 (ninS z296 nin0))
      have f299 := own_castI (j := (2 : Int32)) (by decide) t282_10
      have f300 := own_castA (us := (own_p 17 [.null, .null])) (by rfl) t282_12
      refine own_kP (own_cvi X hx hZ hB (W := 0) hown (W 131 rfl) (W 132 rfl) (W 134 rfl) (W 133 rfl) (W 135 rfl) (W 70 rfl) (by decide) (rm_19 l Z a0 hw [] dc kd cr cc mr hG b278 d_282 ea_282 k_282 (own_p 17 [.null, .null]) (2 : Int32) (2 : Int32) _ n0 (own_zO O) O f295 f298 t282_8 t282_9 f299 t282_11 f300 (by decide)) (by decide) (by decide) eT f295 hml rfl pd_9 rfl rfl rfl at_337 (by decide) (by decide)) rfl rfl fun T X eT => ?_
      refine o_iload X hx hB at_340 rfl ?_
      refine o_icmpYes X hx hB at_342 (Jvm.Free.XT.ii_eq_t (by decide : ((2 : Int32) - (2 : Int32)) = ((0 : Int32) + (0 : Int32)))) 347 ?_
      refine o_aload X hx hB at_347 rfl rfl ?_
      refine own_kQ (own_cvi X hx hZ hB (W := 0) hown (W 196 rfl) (W 197 rfl) (W 199 rfl) (W 198 rfl) (W 200 rfl) (W 70 rfl) (by decide) (rm_30_0 l Z a0 hw [] dc kd cr cc mr hG b278 d_282 ea_282 k_282 (own_p 17 [.null, .null]) (2 : Int32) (2 : Int32) _ n0 (own_zO O) O f295 f298 t282_8 t282_9 f299 t282_11 f300 t282_13 (by decide)) (by decide) (by decide) eT f295 hml rfl pd_18 rfl rfl rfl at_349 (by decide) (by decide)) fun v T L301 hQ X => ?_
      obtain ⟨b_349, rfl, Nq301, Kq301, t301_0, t301_1, t301_2, t301_3, t301_4⟩ := hQ
      have g_b_349 := Nat.le_trans (own_zO O) t301_4
      have N := Fr.app N Nq301
      have O := O.keep Kq301 all0
      refine o_astore X hx hB #[.val (.long pa), .second, .val (.long pb), .second, .val (.long ps), .second, .val (.int fl), .val (.int (1 : Int32)), .val (.int (1 : Int32)), .val (.ref b28), .val (.ref b68), .val (.int (1 : Int32)), .val (.int (1 : Int32)), .val (.ref b128), .val (.ref b137), .val (.int ((0 : Int32) + (0 : Int32))), .val (.ref b278), .val (.ref b_318), .val (.ref b_349)] at_352 rfl rfl ?_
      refine o_aload X hx hB at_354 rfl rfl ?_
      refine o_aload X hx hB at_356 rfl rfl ?_
      have f302 := (((((((t226_0.keep Kq232).keep Kq236).ext E237).keep Kq239).keep Kq243).keep Kq246).keep Kq282).keep Kq301
      have z303 := own_ne2 t226_0.lt t232_5
      have z304 := own_ne1 ((t226_0.keep Kq232).keep Kq236).lt g237
      have z305 := own_ne2 (((t226_0.keep Kq232).keep Kq236).ext E237).lt t239_8
      have z306 := own_ne2 (((t226_0.keep Kq232).keep Kq236).ext E237).lt t239_7
      have f307 := (((((((t226_2.keep Kq232 (ninS (Ne.symm z228) nin0)).keep Kq236 (ninS (Ne.symm z228) (ninS z303 nin0))).ext E237).keep Kq239 (ninS z304 nin0)).keep Kq243 (ninS z306 (ninS z305 nin0))).keep Kq246 (ninS z306 (ninS z305 nin0))).keep Kq282 (ninS z306 (ninS z305 nin0))).keep Kq301 nin0
      have f308 := (((((((t226_3.keep Kq232 (ninS (Ne.symm z228) nin0)).keep Kq236 (ninS (Ne.symm z228) (ninS z303 nin0))).ext E237).keep Kq239 (ninS z304 nin0)).keep Kq243 (ninS z306 (ninS z305 nin0))).keep Kq246 (ninS z306 (ninS z305 nin0))).keep Kq282 (ninS z306 (ninS z305 nin0))).keep Kq301 nin0
      refine own_kP (own_cst X hx hZ hB (W := 0) hown (W 184 rfl) (W 185 rfl) (W 187 rfl) (W 186 rfl) (by decide) (rm_28_0 l Z a0 hw [] dc kd cr cc mr hG b_349 b137 dc kd [] dc kd [] _ n0 (own_zO O) O t301_0 t301_2 t301_3 f302 f307 f308) (by decide) (by decide) rfl hml rfl pd_22 rfl rfl rfl at_358 (by decide) (by decide)) rfl rfl fun T X eT => ?_
      refine o_ifYes X hx hB at_361 (Jvm.Free.XT.i0_ne_t (by decide : ¬ ((1 : Int32) = 0))) 366 ?_
      refine o_aload X hx hB at_366 rfl rfl ?_
      have f309 := f295.keep Kq301
      have f310 := f298.keep Kq301 nin0
      have f311 := t282_8.keep Kq301
      have f312 := t282_9.keep Kq301 nin0
      have f313 := f299.keep Kq301 nin0
      have f314 := t282_11.keep Kq301 nin0
      have f315 := f300.keep Kq301 nin0
      refine own_kP (own_cvi X hx hZ hB (W := 0) hown (W 131 rfl) (W 132 rfl) (W 134 rfl) (W 133 rfl) (W 135 rfl) (W 70 rfl) (by decide) (rm_19 l Z a0 hw [] dc kd cr cc mr hG b278 d_282 ea_282 k_282 (own_p 17 [.null, .null]) (2 : Int32) (2 : Int32) _ n0 (own_zO O) O f309 f310 f311 f312 f313 f314 f315 (by decide)) (by decide) (by decide) eT f309 hml rfl pd_9 rfl rfl rfl at_368 (by decide) (by decide)) rfl rfl fun T X eT => ?_
      refine o_ifNo X hx hB at_371 (Jvm.Free.XT.i0_ne_f (by decide : ((2 : Int32) - (2 : Int32)) = 0)) ?_
      refine o_iconst X hx hB at_374 (1) ?_
      refine o_goto X hx hB at_375 379 ?_
      exact own_retN X hx (t := .boolean) Bd.returns (by simp) (hb hB at_379) (BodyLoose.notSynchronized Bd) (w := (1 : Int32)) rfl ⟨rfl, N⟩ (by decide) (by decide)
set_option maxRecDepth 65536 in
set_option maxHeartbeats 40000000 in
theorem rm0 (l : Launch) (Z : State) (a0 : Array Value) (hw : own_Hw a0 Z) (ws : List Jvm.Cond) (dc : Addr) (kd : ClassId) (cr : Addr) (cc : Cell) (mr : Addr) (hG : own_G Z dc kd cr cc mr) (pa pb ps : Int64) (fl : Int32) (h0 : Heap) (n0 : Nat) (Z0 : n0 ≤ h0.size) (hO : Old Z n0 h0) :
    own_Met l x (Jvm.Cond.code x code maxLocals ret) ws room_1 #[(.long pa), (.long pb), (.long ps), (.int fl)] Z h0 (own_Ql (some (.int (1 : Int32))) n0) 48 320 := by
  have hB5 := hG.2.2.2.2.1
  have hin10 : ¬ (((10 : Int32) + (128 : Int32)) < 0 ∨ cc.slots.size ≤ ((10 : Int32) + (128 : Int32)).toNatClampNeg) := by rw [hB5.2.1]; decide
  obtain ⟨i10, hs10, hX10, hV10⟩ := hB5.2.2.2 _ hin10
  have hin11 : ¬ (((11 : Int32) + (128 : Int32)) < 0 ∨ cc.slots.size ≤ ((11 : Int32) + (128 : Int32)).toNatClampNeg) := by rw [hB5.2.1]; decide
  obtain ⟨i11, hs11, hX11, hV11⟩ := hB5.2.2.2 _ hin11
  have hin20 : ¬ (((20 : Int32) + (128 : Int32)) < 0 ∨ cc.slots.size ≤ ((20 : Int32) + (128 : Int32)).toNatClampNeg) := by rw [hB5.2.1]; decide
  obtain ⟨i20, hs20, hX20, hV20⟩ := hB5.2.2.2 _ hin20
  by_cases hT : (fl &&& (1 : Int32)) = 0
  · by_cases hS : (fl &&& (2 : Int32)) = 0
    · exact rm_0_00 l Z a0 hw ws dc kd cr cc mr hG pa pb ps fl i10 i11 i20 _ _ _ h0 n0 Z0 hO hin10 hs10 hX10 hV10 hin11 hs11 hX11 hV11 hin20 hs20 hX20 hV20 hT hS
    · exact rm_0_01 l Z a0 hw ws dc kd cr cc mr hG pa pb ps fl i10 i11 i20 _ _ _ h0 n0 Z0 hO hin10 hs10 hX10 hV10 hin11 hs11 hX11 hV11 hin20 hs20 hX20 hV20 hT hS
  · by_cases hS : (fl &&& (2 : Int32)) = 0
    · exact rm_0_10 l Z a0 hw ws dc kd cr cc mr hG pa pb ps fl i10 i11 i20 _ _ _ h0 n0 Z0 hO hin10 hs10 hX10 hV10 hin11 hs11 hX11 hV11 hin20 hs20 hX20 hV20 hT hS
    · exact rm_0_11 l Z a0 hw ws dc kd cr cc mr hG pa pb ps fl i10 i11 i20 _ _ _ h0 n0 Z0 hO hin10 hs10 hX10 hV10 hin11 hs11 hX11 hV11 hin20 hs20 hX20 hV20 hT hS
theorem own_len {s : State} {args : Array Value} {t : Term} {a : Addr} {cl : Cell} {z : Int32} (ht : t.eval args s none [] s = some (.ref a)) (ha : s.arrayAt? a = some cl) (h : (Cond.eq (Term.length t) (Term.int z)).value args s none s [] = some true) : cl.slots.size < 2 ^ 31 ∧ cl.slots.size.toInt32 = z := by
  have q := eqv_i (Term.int_eval z) h
  simpa [Term.eval, ht, ha] using q
theorem own_Ovr {s : State} {args : Array Value} {a : Addr} {cl : Cell} (w : (Jvm.Cond.arrayOver (.object "java/lang/Object")).before args s = true) (E : Exa s s.heap a "[Ljava/lang/Object;") (hc : s.heap[a]? = some cl) : Ovr s cl.cls "java/lang/Object" := by
  obtain ⟨cell, k, h1, h2, h3, -⟩ := E
  cases h1.symm.trans hc
  obtain ⟨comp, c, k', q1, -, q3, q4, q5⟩ := Cond.arrayOver_spec w
  have q5 : s.vm.findClass "[Ljava/lang/Object;" = some c := q5
  cases h2.symm.trans q5
  exact ⟨k', comp, q3, q4, q1⟩
theorem own_Gs {s : State} {args : Array Value} {tb : Tables} {e : Env} (hw : ∀ d ∈ tables_1, d.before args s = true) (hr : rest_1_c.before args s = true) (hm : call_1_1 tb e args s) : ∃ dc kd cr cc mr, own_G s dc kd cr cc mr := by
  have hn := Cond.before_iff.mp hr
  obtain ⟨r0, hn⟩ := and_e hn
  obtain ⟨r1, hn⟩ := and_e hn
  obtain ⟨r2, hn⟩ := and_e hn
  obtain ⟨r3, hn⟩ := and_e hn
  obtain ⟨r4, hn⟩ := and_e hn
  obtain ⟨r5, hn⟩ := and_e hn
  obtain ⟨r6, hn⟩ := and_e hn
  obtain ⟨r7, hn⟩ := and_e hn
  obtain ⟨r8, hn⟩ := and_e hn
  obtain ⟨r9, hn⟩ := and_e hn
  obtain ⟨r10, hn⟩ := and_e hn
  obtain ⟨r11, hn⟩ := and_e hn
  obtain ⟨r12, hn⟩ := and_e hn
  obtain ⟨r13, hn⟩ := and_e hn
  obtain ⟨r14, hn⟩ := and_e hn
  obtain ⟨r15, hn⟩ := and_e hn
  obtain ⟨r16, hn⟩ := and_e hn
  obtain ⟨mc, mk, mr, m1, m2, m3, -⟩ := hm
  obtain ⟨dc, v7⟩ := exa_v r7
  obtain ⟨cl, A6⟩ := Arr.start v7 r6
  have E7 := Exa.start v7 r7
  obtain ⟨q8, z8⟩ := own_len v7 (A6.fin (Vm.Alike.refl _)) r8
  obtain ⟨cr, v14⟩ := exa_v r14
  obtain ⟨cc, A13⟩ := Arr.start v14 r13
  obtain ⟨q15, z15⟩ := own_len v14 (A13.fin (Vm.Alike.refl _)) r15
  have S12 := eqv_i (Term.int_eval 127) r12
  have s0 : cl.slots.size = (0 : Int32).toNatClampNeg := by rw [← z8]; simp only [Int32.toNatClampNeg, len_toInt q8]; rfl
  have s0' : cl.slots.size = 0 := s0
  refine ⟨dc, cl.cls, cr, cc, mr, Sta.start v7 (Or.inr ⟨(hw _ (List.mem_of_getElem? (i := 2) rfl)), Cond.before_iff.mpr r2⟩), ⟨⟨cl, A6, rfl, s0, by decide, fun k hk => absurd hk (by omega), fun k hk => absurd hk (by omega)⟩, rfl, own_Ovr (hw _ (List.mem_of_getElem? (i := 66) rfl)) E7 A6.1, E7⟩, Sta.start S12 (Or.inl (Cond.before_iff.mpr r10)), Sta.start v14 (Or.inr ⟨(hw _ (List.mem_of_getElem? (i := 31) rfl)), Cond.before_iff.mpr r11⟩), Bxs.start (fun idx => by rw [← v14]; simp [Term.eval]) A13 q15 z15 (by decide) r16 (fun X j nn h => eqv_i (by have q := idx_at (args := args) (first := s) (o := none) (s := s) nn; simp [Term.eval] at q ⊢; simp [q]) h), ⟨mc, mk, m1, m2, m3⟩, trivial⟩
set_option maxRecDepth 65536 in
set_option maxHeartbeats 40000000 in
theorem comes_1 {Post : Tables → Env → Array Value → State → Outcome → State → Prop} (hpost : ∀ tb e args s v u, (limb_1_1.after args s (.returned v) u = true ∧ limb_1_2.after args s (.returned v) u = true ∧ True) → FrameEnd s (.returned v) u (Jvm.fieldLocs frame_1_writes args s ++ Jvm.arrayLocs frame_1_arrays args s ++ Jvm.staticLocs frame_1_statics s) 48 320 → Post tb e args s (.returned v) u) :
    ArmFor flags0 classFile x code maxLocals ret World_1 tables_1 room_1 Calls_1 rest_1 Pre_1 Post := by
  intro l hfl _ _ p e ha hc hk s m args below hf hA hF happ hP
  obtain ⟨hcalls, hrest, hpre⟩ := hP
  obtain ⟨-, -, -, hnamed, -, -, -, hat⟩ := (Spec.applies_iff hf).mp happ
  obtain ⟨hg, hn⟩ := and_e (Cond.before_iff.mp (show (Jvm.Cond.and given_1 narrow_1).before args s = true from hpre))
  obtain ⟨g1, g2⟩ := and_e hg
  obtain ⟨g3, g4⟩ := and_e g2
  obtain ⟨g5, g6⟩ := and_e g4
  obtain ⟨g7, g8⟩ := and_e g6
  obtain ⟨w0, w1, w2, w3, rfl⟩ : ∃ w0 w1 w2 w3 : Value, args = #[w0, w1, w2, w3] := by
    have hs : args.size = 4 := by simpa [Cond.value, given_1] using g1
    obtain ⟨L⟩ := args
    match L, hs with
    | [w0, w1, w2, w3], _ => exact ⟨w0, w1, w2, w3, rfl⟩
  have hw := fun d (hd : d ∈ tables_1) => atoms_spec (ws := Jvm.Cond.code x code maxLocals ret :: tables_1) hat d (List.mem_cons_of_mem _ hd)
  obtain ⟨dc, kd, cr, cc, mr, hG⟩ := own_Gs hw hrest hcalls.1
  obtain ⟨i0, ei0⟩ := isL_v g3
  obtain rfl : w0 = (.long i0) := Option.some.inj ei0
  obtain ⟨i1, ei1⟩ := isL_v g5
  obtain rfl : w1 = (.long i1) := Option.some.inj ei1
  obtain ⟨i2, ei2⟩ := isL_v g7
  obtain rfl : w2 = (.long i2) := Option.some.inj ei2
  obtain ⟨i3, ei3⟩ := is_v g8
  obtain rfl : w3 = (.int i3) := Option.some.inj ei3
  have hrm := rm0 l s _ hw tables_1 dc kd cr cc mr hG i0 i1 i2 i3 s.heap s.heap.size (Nat.le_refl _) (Old.start s)
  obtain ⟨n, o, h1, h2, h3, _, L, rfl, ⟨rfl, N⟩, hq⟩ := hrm p e ha hc hk s m _ below hf ((Spec.applies_iff_loose hf).mp happ).1 ⟨rfl, State.Warmed39.refl s, rfl⟩ trivial
  refine ⟨n, _, h1, h2, h3, hpost _ _ _ _ _ _ ⟨Cond.after_iff.mpr rfl, Cond.after_iff.mpr (eq_i res_at (Term.int_eval (1)) rfl), trivial⟩ ⟨hq.1, hq.2.1, (hq.2.2.sift fun y hy => Or.inr (N y hy)).mono (by decide) (by decide)⟩⟩
theorem main_1_1 : Claimed_1_1 := comes_1 fun _ _ _ _ _ _ h hF => ⟨h.1, hF⟩
theorem main_1_2 : Claimed_1_2 := comes_1 fun _ _ _ _ _ _ h hF => ⟨h.2.1, hF⟩
end Jvm.Pilot.@@N@@
namespace Jvm.Pilot.@@N@@
open Jvm Jvm.ClassFile Sem Op Lib Jvm.Free Jvm.Stand Jvm.Pilot.@@N@@.Jvm.D
/-! MADE BY PROGRAM (witnessworld.py) out of the Statement's table words and the real class files: 36 classes; the members and pool entries that the words name. The judged class is class 1, her method 1. -/
namespace start1
open Jvm.ClassFile
def u (s : String) : CpInfo := .utf8 (stringToUtf16 s)
/-- a pool by its gaps: so many unusable entries, then the entry; so many at the end -/
def gap : Nat → List CpInfo → List CpInfo
  | 0, r => r
  | n + 1, r => .unusable :: gap n r
def poolList (es : List (Nat × CpInfo)) (last : Nat) : List CpInfo := es.foldr (fun e r => gap e.1 (e.2 :: r)) (gap last [])
def pool (es : List (Nat × CpInfo)) (last : Nat) : Array CpInfo := ⟨poolList es last⟩
def fileOf (pool : Array CpInfo) (this : Nat) (attrs : Array Attribute := #[]) (ms : Array MethodInfo := #[]) (fl : Nat := 33) (sup : Nat := 0) (ifs : Array Nat := #[]) (fds : Array FieldInfo := #[]) : ClassFile where
  minorVersion := 0
  majorVersion := 65
  constantPool := pool
  accessFlags := fl
  thisClass := this
  superClass := sup
  interfaces := ifs
  fields := fds
  methods := ms
  attributes := attrs
def plain (name : String) (sup : Option ClassId) : Class where
  name := name
  kind := .ordinary
  loader := none
  accessFlags := 33
  super := sup
  interfaces := #[]
  cf := none
  fields := #[]
  methods := #[]
  instanceTypes := #[]
  staticTypes := #[]
  resolved := #[]
  callSites := []
  init := .initialized
  statics := none
  mirror := none

def pool0 : Array CpInfo := pool [(5, u "<init>"), (0, u "()V"), (1, .class_ 10), (1, u "java/lang/Object"), (0, u "getClass"), (0, u "()Ljava/lang/Class;")] 111

def k0c0 : Code := { maxStack := 0, maxLocals := 1, code := object_method_1_code, exceptionTable := #[], attributes := #[] }
def k0m0 : Method := { name := "<init>", desc := "()V", sig := { parameters := [], returnType := none }, accessFlags := 1, code := some k0c0 }
def k0m1 : Method := { name := "getClass", desc := "()Ljava/lang/Class;", sig := { parameters := [], returnType := some (.object "java/lang/Class") }, accessFlags := 273, code := none }
/-- java/lang/Object -/
def k0 : Class := { plain "java/lang/Object" none with
  accessFlags := 33
  interfaces := #[]
  cf := some (fileOf pool0 8 #[] #[{ accessFlags := 1, nameIndex := 5, descriptorIndex := 6, attributes := #[] }, { accessFlags := 273, nameIndex := 11, descriptorIndex := 12, attributes := #[] }] 33 0 #[] #[])
  fields := #[]
  methods := #[k0m0, k0m1]
  instanceTypes := #[]
  staticTypes := #[]
  resolved := Array.replicate 124 none
  statics := none }

def pool1 : Array CpInfo := pool [(2, .class_ 4), (0, .nameAndType 5 6), (0, u "java/lang/Object"), (0, u "<init>"), (0, u "()V"), (0, .class_ 8), (0, u "java/util/ArrayList"), (0, .methodref 7 3), (0, .methodref 11 12), (0, .class_ 13), (0, .nameAndType 14 15), (0, u "java/lang/Integer"), (0, u "valueOf"), (0, u "(I)Ljava/lang/Integer;"), (0, .interfaceMethodref 17 18), (0, .class_ 19), (0, .nameAndType 20 21), (0, u "java/util/List"), (0, u "add"), (0, u "(Ljava/lang/Object;)Z"), (0, .class_ 23), (0, u "com/example/sandpiper/sandpiper/broker/AwaitingSync"), (0, .methodref 22 3), (0, .methodref 22 26), (0, .nameAndType 20 27), (0, u "(JLjava/util/List;)V"), (0, .methodref 22 29), (0, .nameAndType 30 31), (0, u "size"), (0, u "()I"), (0, .methodref 22 33), (0, .nameAndType 34 35), (0, u "due"), (0, u "(J)Ljava/util/List;"), (0, .methodref 37 38), (0, .class_ 39), (0, .nameAndType 40 41), (0, u "com/example/sandpiper/sandpiper/broker/AwaitingSyncAddPinLaw"), (0, u "same"), (0, u "(Ljava/util/List;Ljava/util/List;)Z"), (0, .methodref 22 43), (0, .nameAndType 44 45), (0, u "all"), (0, u "()Ljava/util/List;"), (0, .interfaceMethodref 17 29), (0, .interfaceMethodref 17 48), (0, .nameAndType 49 50), (0, u "get"), (0, u "(I)Ljava/lang/Object;"), (0, .methodref 11 52), (0, .nameAndType 53 31), (0, u "intValue"), (2, u "law"), (0, u "(JJJI)Z")] 5

def k1m0 : Method := { name := "<init>", desc := "()V", sig := { parameters := [], returnType := none }, accessFlags := 1, code := none }
def k1c1 : Code := { maxStack := 4, maxLocals := 19, code := code, exceptionTable := #[], attributes := #[] }
def k1m1 : Method := { name := "law", desc := "(JJJI)Z", sig := { parameters := [.long, .long, .long, .int], returnType := some .boolean }, accessFlags := 9, code := some k1c1 }
def k1c2 : Code := { maxStack := 3, maxLocals := 3, code := method_3_code, exceptionTable := #[], attributes := #[] }
def k1m2 : Method := { name := "same", desc := "(Ljava/util/List;Ljava/util/List;)Z", sig := { parameters := [(.object "java/util/List"), (.object "java/util/List")], returnType := some .boolean }, accessFlags := 10, code := some k1c2 }
/-- com/example/sandpiper/sandpiper/broker/AwaitingSyncAddPinLaw -/
def k1 : Class := { plain "com/example/sandpiper/sandpiper/broker/AwaitingSyncAddPinLaw" (some 0) with
  accessFlags := 49
  interfaces := #[]
  cf := some (fileOf pool1 37 #[] #[{ accessFlags := 1, nameIndex := 5, descriptorIndex := 6, attributes := #[] }, { accessFlags := 9, nameIndex := 56, descriptorIndex := 57, attributes := #[] }, { accessFlags := 10, nameIndex := 40, descriptorIndex := 41, attributes := #[] }] 49 2 #[] #[])
  fields := #[]
  methods := #[k1m0, k1m1, k1m2]
  instanceTypes := #[]
  staticTypes := #[]
  resolved := Array.replicate 63 none
  statics := none }

def pool2 : Array CpInfo := pool [(8, .class_ 10), (1, u "java/lang/Iterable"), (24, .class_ 36), (0, u "java/lang/Object")] 25

/-- java/lang/Iterable -/
def k2 : Class := { plain "java/lang/Iterable" (some 0) with
  accessFlags := 1537
  interfaces := #[]
  cf := some (fileOf pool2 8 #[] #[] 1537 35 #[] #[])
  fields := #[]
  methods := #[]
  instanceTypes := #[]
  staticTypes := #[]
  resolved := Array.replicate 62 none
  statics := none }

def pool3 : Array CpInfo := pool [(10, .class_ 12), (1, u "java/util/Collection"), (0, u "toArray"), (16, u "()Z"), (29, .class_ 61), (0, u "java/lang/Object"), (0, .class_ 63), (0, u "java/lang/Iterable"), (2, u "isEmpty"), (3, u "()[Ljava/lang/Object;")] 44

def k3m0 : Method := { name := "isEmpty", desc := "()Z", sig := { parameters := [], returnType := some .boolean }, accessFlags := 1025, code := none }
def k3m1 : Method := { name := "toArray", desc := "()[Ljava/lang/Object;", sig := { parameters := [], returnType := some (.array (.object "java/lang/Object")) }, accessFlags := 1025, code := none }
/-- java/util/Collection -/
def k3 : Class := { plain "java/util/Collection" (some 0) with
  accessFlags := 1537
  interfaces := #[2]
  cf := some (fileOf pool3 10 #[] #[{ accessFlags := 1025, nameIndex := 66, descriptorIndex := 30, attributes := #[] }, { accessFlags := 1025, nameIndex := 13, descriptorIndex := 70, attributes := #[] }] 1537 60 #[62] #[])
  fields := #[]
  methods := #[k3m0, k3m1]
  instanceTypes := #[]
  staticTypes := #[]
  resolved := Array.replicate 115 none
  statics := none }

def pool4 : Array CpInfo := pool [(1, .methodref 2 3), (0, .class_ 4), (0, .nameAndType 5 6), (0, u "java/lang/Object"), (0, u "<init>"), (0, u "()V"), (1, .class_ 10), (1, u "java/util/AbstractCollection"), (66, .class_ 78), (0, u "java/util/Collection")] 81

def k4c0 : Code := { maxStack := 1, maxLocals := 1, code := jdk_22_method_1_code, exceptionTable := #[], attributes := #[] }
def k4m0 : Method := { name := "<init>", desc := "()V", sig := { parameters := [], returnType := none }, accessFlags := 4, code := some k4c0 }
/-- java/util/AbstractCollection -/
def k4 : Class := { plain "java/util/AbstractCollection" (some 0) with
  accessFlags := 1057
  interfaces := #[3]
  cf := some (fileOf pool4 8 #[] #[{ accessFlags := 4, nameIndex := 5, descriptorIndex := 6, attributes := #[] }] 1057 2 #[77] #[])
  fields := #[]
  methods := #[k4m0]
  instanceTypes := #[]
  staticTypes := #[]
  resolved := Array.replicate 160 none
  statics := none }

def pool5 : Array CpInfo := pool [(8, .class_ 10), (1, u "java/util/SequencedCollection"), (15, .class_ 27), (0, u "java/lang/Object"), (0, .class_ 29), (0, u "java/util/Collection")] 27

/-- java/util/SequencedCollection -/
def k5 : Class := { plain "java/util/SequencedCollection" (some 0) with
  accessFlags := 1537
  interfaces := #[3]
  cf := some (fileOf pool5 8 #[] #[] 1537 26 #[28] #[])
  fields := #[]
  methods := #[]
  instanceTypes := #[]
  staticTypes := #[]
  resolved := Array.replicate 57 none
  statics := none }

def pool6 : Array CpInfo := pool [(8, .class_ 10), (1, u "java/util/List"), (49, u "add"), (3, u "(Ljava/lang/Object;)Z"), (10, u "get"), (0, u "(I)Ljava/lang/Object;"), (2, u "size"), (0, u "()I"), (22, .class_ 104), (0, u "java/lang/Object"), (15, .class_ 121), (0, u "java/util/SequencedCollection"), (9, u "(Ljava/util/Collection;)Z"), (1, u "addAll")] 117

def k6m0 : Method := { name := "size", desc := "()I", sig := { parameters := [], returnType := some .int }, accessFlags := 1025, code := none }
def k6m1 : Method := { name := "add", desc := "(Ljava/lang/Object;)Z", sig := { parameters := [(.object "java/lang/Object")], returnType := some .boolean }, accessFlags := 1025, code := none }
def k6m2 : Method := { name := "addAll", desc := "(Ljava/util/Collection;)Z", sig := { parameters := [(.object "java/util/Collection")], returnType := some .boolean }, accessFlags := 1025, code := none }
def k6m3 : Method := { name := "get", desc := "(I)Ljava/lang/Object;", sig := { parameters := [.int], returnType := some (.object "java/lang/Object") }, accessFlags := 1025, code := none }
/-- java/util/List -/
def k6 : Class := { plain "java/util/List" (some 0) with
  accessFlags := 1537
  interfaces := #[5]
  cf := some (fileOf pool6 8 #[] #[{ accessFlags := 1025, nameIndex := 79, descriptorIndex := 80, attributes := #[] }, { accessFlags := 1025, nameIndex := 60, descriptorIndex := 64, attributes := #[] }, { accessFlags := 1025, nameIndex := 133, descriptorIndex := 131, attributes := #[] }, { accessFlags := 1025, nameIndex := 75, descriptorIndex := 76, attributes := #[] }] 1537 103 #[120] #[])
  fields := #[]
  methods := #[k6m0, k6m1, k6m2, k6m3]
  instanceTypes := #[]
  staticTypes := #[]
  resolved := Array.replicate 251 none
  statics := none }

def pool7 : Array CpInfo := pool [(1, .methodref 2 3), (0, .class_ 4), (0, .nameAndType 5 6), (0, u "java/util/AbstractCollection"), (0, u "<init>"), (0, u "()V"), (0, .fieldref 8 9), (0, .class_ 10), (0, .nameAndType 11 12), (0, u "java/util/AbstractList"), (0, u "modCount"), (0, u "I"), (64, .class_ 78), (0, u "java/util/AbstractList$Itr"), (3, .class_ 83), (0, u "java/util/AbstractList$ListItr"), (9, .class_ 94), (0, u "java/util/AbstractList$RandomAccessSubList"), (3, .class_ 99), (0, u "java/util/AbstractList$SubList"), (33, .class_ 134), (0, u "java/util/List"), (73, .class_ 209), (0, u "java/util/AbstractList$SubList$1"), (0, .class_ 211), (0, u "java/util/AbstractList$RandomAccessSpliterator")] 6

def k7c0 : Code := { maxStack := 2, maxLocals := 1, code := jdk_39_method_1_code, exceptionTable := #[], attributes := #[] }
def k7m0 : Method := { name := "<init>", desc := "()V", sig := { parameters := [], returnType := none }, accessFlags := 4, code := some k7c0 }
/-- java/util/AbstractList -/
def k7 : Class := { plain "java/util/AbstractList" (some 4) with
  accessFlags := 1057
  interfaces := #[6]
  cf := some (fileOf pool7 8 #[.nestMembers #[93, 98, 208, 210, 82, 77]] #[{ accessFlags := 4, nameIndex := 5, descriptorIndex := 6, attributes := #[] }] 1057 2 #[133] #[{ accessFlags := 132, nameIndex := 11, descriptorIndex := 12, attributes := #[] }])
  fields := #[{ name := "modCount", type := .int, accessFlags := 132, slot := 0, constantValue := 0 }]
  methods := #[k7m0]
  instanceTypes := #[.int]
  staticTypes := #[]
  resolved := Array.replicate 218 none
  statics := none }

def pool8 : Array CpInfo := pool [(1, .class_ 2), (0, u "java/util/RandomAccess"), (0, .class_ 4), (0, u "java/lang/Object")] 2

/-- java/util/RandomAccess -/
def k8 : Class := { plain "java/util/RandomAccess" (some 0) with
  accessFlags := 1537
  interfaces := #[]
  cf := some (fileOf pool8 1 #[] #[] 1537 3 #[] #[])
  fields := #[]
  methods := #[]
  instanceTypes := #[]
  staticTypes := #[]
  resolved := Array.replicate 7 none
  statics := none }

def pool9 : Array CpInfo := pool [(1, .class_ 2), (0, u "java/lang/Cloneable"), (0, .class_ 4), (0, u "java/lang/Object")] 2

/-- java/lang/Cloneable -/
def k9 : Class := { plain "java/lang/Cloneable" (some 0) with
  accessFlags := 1537
  interfaces := #[]
  cf := some (fileOf pool9 1 #[] #[] 1537 3 #[] #[])
  fields := #[]
  methods := #[]
  instanceTypes := #[]
  staticTypes := #[]
  resolved := Array.replicate 7 none
  statics := none }

def pool10 : Array CpInfo := pool [(1, .class_ 2), (0, u "java/io/Serializable"), (0, .class_ 4), (0, u "java/lang/Object")] 2

/-- java/io/Serializable -/
def k10 : Class := { plain "java/io/Serializable" (some 0) with
  accessFlags := 1537
  interfaces := #[]
  cf := some (fileOf pool10 1 #[] #[] 1537 3 #[] #[])
  fields := #[]
  methods := #[]
  instanceTypes := #[]
  staticTypes := #[]
  resolved := Array.replicate 7 none
  statics := none }

def pool11 : Array CpInfo := pool [(1, .methodref 2 3), (0, .class_ 4), (0, .nameAndType 5 6), (0, u "java/util/AbstractList"), (0, u "<init>"), (0, u "()V"), (0, .class_ 8), (0, u "java/lang/Object"), (0, .fieldref 10 11), (0, .class_ 12), (0, .nameAndType 13 14), (0, u "java/util/ArrayList"), (0, u "elementData"), (0, u "[Ljava/lang/Object;"), (2, u "EMPTY_ELEMENTDATA"), (21, .fieldref 10 40), (0, .nameAndType 41 14), (0, u "DEFAULTCAPACITY_EMPTY_ELEMENTDATA"), (0, .interfaceMethodref 43 44), (0, .class_ 45), (0, .nameAndType 46 47), (0, u "java/util/Collection"), (0, u "toArray"), (0, u "()[Ljava/lang/Object;"), (0, .fieldref 10 49), (0, .nameAndType 50 51), (0, u "size"), (0, u "I"), (6, .class_ 60), (1, u "java/util/Arrays"), (0, u "copyOf"), (1, .fieldref 10 64), (0, .nameAndType 65 51), (0, u "modCount"), (0, .methodref 58 67), (0, .nameAndType 61 68), (0, u "([Ljava/lang/Object;I)[Ljava/lang/Object;"), (0, .methodref 10 70), (0, .nameAndType 71 72), (0, u "grow"), (0, u "(I)[Ljava/lang/Object;"), (6, .methodref 80 81), (0, .class_ 82), (0, .nameAndType 83 84), (0, u "java/lang/Math"), (0, u "max"), (0, u "(II)I"), (11, u "(Ljava/lang/Object;)Z"), (15, .methodref 113 114), (0, .class_ 115), (0, .nameAndType 116 117), (0, u "java/lang/System"), (0, u "arraycopy"), (0, u "(Ljava/lang/Object;ILjava/lang/Object;II)V"), (0, .methodref 119 120), (0, .class_ 121), (0, .nameAndType 122 84), (0, u "java/util/Objects"), (0, u "checkIndex"), (0, .methodref 10 124), (0, .nameAndType 13 125), (0, u "(I)Ljava/lang/Object;"), (3, .methodref 10 130), (0, .nameAndType 71 47), (0, .methodref 10 132), (0, .nameAndType 133 134), (0, u "add"), (0, u "(Ljava/lang/Object;[Ljava/lang/Object;I)V"), (13, .class_ 149), (0, u "java/util/List"), (36, u "()I"), (75, .class_ 263), (0, u "java/util/ArrayList$ListItr"), (3, .class_ 268), (0, u "java/util/ArrayList$Itr"), (7, .class_ 277), (0, u "java/util/ArrayList$SubList"), (12, .class_ 291), (0, u "java/util/ArrayList$ArrayListSpliterator"), (37, .class_ 330), (0, u "java/util/RandomAccess"), (0, .class_ 332), (0, u "java/lang/Cloneable"), (0, .class_ 334), (0, u "java/io/Serializable"), (0, u "serialVersionUID"), (0, u "J"), (3, u "DEFAULT_CAPACITY"), (40, u "get"), (38, u "addAll"), (0, u "(Ljava/util/Collection;)Z"), (78, .class_ 501), (0, u "java/util/ArrayList$SubList$2"), (0, .class_ 503), (0, u "java/util/ArrayList$SubList$1")] 5

def k11c0 : Code := { maxStack := 2, maxLocals := 1, code := jdk_38_method_2_code, exceptionTable := #[], attributes := #[] }
def k11m0 : Method := { name := "<init>", desc := "()V", sig := { parameters := [], returnType := none }, accessFlags := 1, code := some k11c0 }
def k11c1 : Code := { maxStack := 4, maxLocals := 4, code := jdk_38_method_6_code, exceptionTable := #[], attributes := #[] }
def k11m1 : Method := { name := "grow", desc := "(I)[Ljava/lang/Object;", sig := { parameters := [.int], returnType := some (.array (.object "java/lang/Object")) }, accessFlags := 2, code := some k11c1 }
def k11c2 : Code := { maxStack := 3, maxLocals := 1, code := jdk_38_method_7_code, exceptionTable := #[], attributes := #[] }
def k11m2 : Method := { name := "grow", desc := "()[Ljava/lang/Object;", sig := { parameters := [], returnType := some (.array (.object "java/lang/Object")) }, accessFlags := 2, code := some k11c2 }
def k11c3 : Code := { maxStack := 1, maxLocals := 1, code := jdk_38_method_8_code, exceptionTable := #[], attributes := #[] }
def k11m3 : Method := { name := "size", desc := "()I", sig := { parameters := [], returnType := some .int }, accessFlags := 1, code := some k11c3 }
def k11c4 : Code := { maxStack := 2, maxLocals := 1, code := jdk_38_method_16_code, exceptionTable := #[], attributes := #[] }
def k11m4 : Method := { name := "toArray", desc := "()[Ljava/lang/Object;", sig := { parameters := [], returnType := some (.array (.object "java/lang/Object")) }, accessFlags := 1, code := some k11c4 }
def k11c5 : Code := { maxStack := 2, maxLocals := 2, code := jdk_38_method_18_code, exceptionTable := #[], attributes := #[] }
def k11m5 : Method := { name := "elementData", desc := "(I)Ljava/lang/Object;", sig := { parameters := [.int], returnType := some (.object "java/lang/Object") }, accessFlags := 0, code := some k11c5 }
def k11c6 : Code := { maxStack := 2, maxLocals := 2, code := jdk_38_method_20_code, exceptionTable := #[], attributes := #[] }
def k11m6 : Method := { name := "get", desc := "(I)Ljava/lang/Object;", sig := { parameters := [.int], returnType := some (.object "java/lang/Object") }, accessFlags := 1, code := some k11c6 }
def k11c7 : Code := { maxStack := 3, maxLocals := 4, code := jdk_38_method_24_code, exceptionTable := #[], attributes := #[] }
def k11m7 : Method := { name := "add", desc := "(Ljava/lang/Object;[Ljava/lang/Object;I)V", sig := { parameters := [(.object "java/lang/Object"), (.array (.object "java/lang/Object")), .int], returnType := none }, accessFlags := 2, code := some k11c7 }
def k11c8 : Code := { maxStack := 4, maxLocals := 2, code := jdk_38_method_25_code, exceptionTable := #[], attributes := #[] }
def k11m8 : Method := { name := "add", desc := "(Ljava/lang/Object;)Z", sig := { parameters := [(.object "java/lang/Object")], returnType := some .boolean }, accessFlags := 1, code := some k11c8 }
def k11c9 : Code := { maxStack := 5, maxLocals := 6, code := jdk_38_method_41_code, exceptionTable := #[], attributes := #[] }
def k11m9 : Method := { name := "addAll", desc := "(Ljava/util/Collection;)Z", sig := { parameters := [(.object "java/util/Collection")], returnType := some .boolean }, accessFlags := 1, code := some k11c9 }
/-- java/util/ArrayList -/
def k11 : Class := { plain "java/util/ArrayList" (some 7) with
  accessFlags := 33
  interfaces := #[6, 8, 9, 10]
  cf := some (fileOf pool11 10 #[.nestMembers #[290, 276, 500, 502, 262, 267]] #[{ accessFlags := 1, nameIndex := 5, descriptorIndex := 6, attributes := #[] }, { accessFlags := 2, nameIndex := 71, descriptorIndex := 72, attributes := #[] }, { accessFlags := 2, nameIndex := 71, descriptorIndex := 47, attributes := #[] }, { accessFlags := 1, nameIndex := 50, descriptorIndex := 186, attributes := #[] }, { accessFlags := 1, nameIndex := 46, descriptorIndex := 47, attributes := #[] }, { accessFlags := 0, nameIndex := 13, descriptorIndex := 125, attributes := #[] }, { accessFlags := 1, nameIndex := 381, descriptorIndex := 125, attributes := #[] }, { accessFlags := 2, nameIndex := 133, descriptorIndex := 134, attributes := #[] }, { accessFlags := 1, nameIndex := 133, descriptorIndex := 96, attributes := #[] }, { accessFlags := 1, nameIndex := 420, descriptorIndex := 421, attributes := #[] }] 33 2 #[148, 329, 331, 333] #[{ accessFlags := 26, nameIndex := 335, descriptorIndex := 336, attributes := #[] }, { accessFlags := 26, nameIndex := 340, descriptorIndex := 51, attributes := #[] }, { accessFlags := 26, nameIndex := 17, descriptorIndex := 14, attributes := #[] }, { accessFlags := 26, nameIndex := 41, descriptorIndex := 14, attributes := #[] }, { accessFlags := 128, nameIndex := 13, descriptorIndex := 14, attributes := #[] }, { accessFlags := 2, nameIndex := 50, descriptorIndex := 51, attributes := #[] }])
  fields := #[{ name := "serialVersionUID", type := .long, accessFlags := 26, slot := 0, constantValue := 0 }, { name := "DEFAULT_CAPACITY", type := .int, accessFlags := 26, slot := 1, constantValue := 0 }, { name := "EMPTY_ELEMENTDATA", type := (.array (.object "java/lang/Object")), accessFlags := 26, slot := 2, constantValue := 0 }, { name := "DEFAULTCAPACITY_EMPTY_ELEMENTDATA", type := (.array (.object "java/lang/Object")), accessFlags := 26, slot := 3, constantValue := 0 }, { name := "elementData", type := (.array (.object "java/lang/Object")), accessFlags := 128, slot := 1, constantValue := 0 }, { name := "size", type := .int, accessFlags := 2, slot := 2, constantValue := 0 }]
  methods := #[k11m0, k11m1, k11m2, k11m3, k11m4, k11m5, k11m6, k11m7, k11m8, k11m9]
  instanceTypes := #[.int, (.array (.object "java/lang/Object")), .int]
  staticTypes := #[.long, .int, (.array (.object "java/lang/Object")), (.array (.object "java/lang/Object"))]
  resolved := Array.replicate 509 none
  statics := some 0 }

def pool12 : Array CpInfo := pool [(2, .class_ 4), (1, u "java/lang/Object"), (0, u "<init>"), (0, u "()V"), (1, .class_ 10), (1, u "java/lang/Number"), (2, .class_ 14), (0, u "java/io/Serializable"), (0, u "serialVersionUID"), (0, u "J")] 20

def k12m0 : Method := { name := "<init>", desc := "()V", sig := { parameters := [], returnType := none }, accessFlags := 1, code := none }
/-- java/lang/Number -/
def k12 : Class := { plain "java/lang/Number" (some 0) with
  accessFlags := 1057
  interfaces := #[10]
  cf := some (fileOf pool12 8 #[] #[{ accessFlags := 1, nameIndex := 5, descriptorIndex := 6, attributes := #[] }] 1057 2 #[13] #[{ accessFlags := 26, nameIndex := 15, descriptorIndex := 16, attributes := #[] }])
  fields := #[{ name := "serialVersionUID", type := .long, accessFlags := 26, slot := 0, constantValue := 0 }]
  methods := #[k12m0]
  instanceTypes := #[]
  staticTypes := #[.long]
  resolved := Array.replicate 37 none
  statics := none }

def pool13 : Array CpInfo := pool [(1, .class_ 2), (0, u "java/lang/Comparable"), (0, .class_ 4), (0, u "java/lang/Object")] 7

/-- java/lang/Comparable -/
def k13 : Class := { plain "java/lang/Comparable" (some 0) with
  accessFlags := 1537
  interfaces := #[]
  cf := some (fileOf pool13 1 #[] #[] 1537 3 #[] #[])
  fields := #[]
  methods := #[]
  instanceTypes := #[]
  staticTypes := #[]
  resolved := Array.replicate 12 none
  statics := none }

def pool14 : Array CpInfo := pool [(1, .class_ 2), (0, u "java/lang/constant/Constable"), (0, .class_ 4), (0, u "java/lang/Object")] 6

/-- java/lang/constant/Constable -/
def k14 : Class := { plain "java/lang/constant/Constable" (some 0) with
  accessFlags := 1537
  interfaces := #[]
  cf := some (fileOf pool14 1 #[] #[] 1537 3 #[] #[])
  fields := #[]
  methods := #[]
  instanceTypes := #[]
  staticTypes := #[]
  resolved := Array.replicate 11 none
  statics := none }

def pool15 : Array CpInfo := pool [(1, .class_ 2), (0, u "java/lang/constant/ConstantDesc"), (0, .class_ 4), (0, u "java/lang/Object")] 32

/-- java/lang/constant/ConstantDesc -/
def k15 : Class := { plain "java/lang/constant/ConstantDesc" (some 0) with
  accessFlags := 1537
  interfaces := #[]
  cf := some (fileOf pool15 1 #[] #[] 1537 3 #[] #[])
  fields := #[]
  methods := #[]
  instanceTypes := #[]
  staticTypes := #[]
  resolved := Array.replicate 37 none
  statics := none }

def pool16 : Array CpInfo := pool [(1, .class_ 2), (0, u "java/lang/Integer"), (16, u "digits"), (0, u "[C"), (64, u "DigitOnes"), (0, u "[B"), (2, u "DigitTens"), (31, u "()I"), (65, u "valueOf"), (0, u "(I)Ljava/lang/Integer;"), (0, .class_ 190), (0, u "java/lang/Integer$IntegerCache"), (0, .fieldref 189 192), (0, .nameAndType 193 194), (0, u "high"), (0, u "I"), (0, .fieldref 189 196), (0, .nameAndType 197 198), (0, u "cache"), (0, u "[Ljava/lang/Integer;"), (4, .class_ 204), (0, u "java/lang/Number"), (0, .fieldref 1 206), (0, .nameAndType 207 194), (0, u "value"), (5, u "intValue"), (88, u "TYPE"), (0, u "Ljava/lang/Class;"), (0, .class_ 305), (0, u "java/lang/Comparable"), (0, .class_ 307), (0, u "java/lang/constant/Constable"), (0, .class_ 309), (0, u "java/lang/constant/ConstantDesc"), (0, u "MIN_VALUE"), (1, u "MAX_VALUE"), (3, u "SIZE"), (1, u "BYTES"), (1, u "serialVersionUID"), (0, u "J")] 131

def k16c0 : Code := { maxStack := 3, maxLocals := 1, code := jdk_33_method_22_code, exceptionTable := #[], attributes := #[] }
def k16m0 : Method := { name := "valueOf", desc := "(I)Ljava/lang/Integer;", sig := { parameters := [.int], returnType := some (.object "java/lang/Integer") }, accessFlags := 9, code := some k16c0 }
def k16c1 : Code := { maxStack := 1, maxLocals := 1, code := jdk_33_method_27_code, exceptionTable := #[], attributes := #[] }
def k16m1 : Method := { name := "intValue", desc := "()I", sig := { parameters := [], returnType := some .int }, accessFlags := 1, code := some k16c1 }
/-- java/lang/Integer -/
def k16 : Class := { plain "java/lang/Integer" (some 12) with
  accessFlags := 49
  interfaces := #[13, 14, 15]
  cf := some (fileOf pool16 1 #[.nestMembers #[189]] #[{ accessFlags := 9, nameIndex := 187, descriptorIndex := 188, attributes := #[] }, { accessFlags := 1, nameIndex := 213, descriptorIndex := 121, attributes := #[] }] 49 203 #[304, 306, 308] #[{ accessFlags := 25, nameIndex := 310, descriptorIndex := 194, attributes := #[] }, { accessFlags := 25, nameIndex := 312, descriptorIndex := 194, attributes := #[] }, { accessFlags := 25, nameIndex := 302, descriptorIndex := 303, attributes := #[] }, { accessFlags := 24, nameIndex := 19, descriptorIndex := 20, attributes := #[] }, { accessFlags := 24, nameIndex := 89, descriptorIndex := 86, attributes := #[] }, { accessFlags := 24, nameIndex := 85, descriptorIndex := 86, attributes := #[] }, { accessFlags := 18, nameIndex := 207, descriptorIndex := 194, attributes := #[] }, { accessFlags := 25, nameIndex := 316, descriptorIndex := 194, attributes := #[] }, { accessFlags := 25, nameIndex := 318, descriptorIndex := 194, attributes := #[] }, { accessFlags := 26, nameIndex := 320, descriptorIndex := 321, attributes := #[] }])
  fields := #[{ name := "MIN_VALUE", type := .int, accessFlags := 25, slot := 0, constantValue := 0 }, { name := "MAX_VALUE", type := .int, accessFlags := 25, slot := 1, constantValue := 0 }, { name := "TYPE", type := (.object "java/lang/Class"), accessFlags := 25, slot := 2, constantValue := 0 }, { name := "digits", type := (.array .char), accessFlags := 24, slot := 3, constantValue := 0 }, { name := "DigitTens", type := (.array .byte), accessFlags := 24, slot := 4, constantValue := 0 }, { name := "DigitOnes", type := (.array .byte), accessFlags := 24, slot := 5, constantValue := 0 }, { name := "value", type := .int, accessFlags := 18, slot := 0, constantValue := 0 }, { name := "SIZE", type := .int, accessFlags := 25, slot := 6, constantValue := 0 }, { name := "BYTES", type := .int, accessFlags := 25, slot := 7, constantValue := 0 }, { name := "serialVersionUID", type := .long, accessFlags := 26, slot := 8, constantValue := 0 }]
  methods := #[k16m0, k16m1]
  instanceTypes := #[.int]
  staticTypes := #[.int, .int, (.object "java/lang/Class"), (.array .char), (.array .byte), (.array .byte), .int, .int, .long]
  resolved := Array.replicate 453 none
  statics := none }

def pool17 : Array CpInfo := pool [(2, .class_ 4), (1, u "java/lang/Object"), (0, u "<init>"), (0, u "()V"), (0, .class_ 8), (0, u "java/lang/Integer"), (7, .class_ 18), (1, u "java/lang/Integer$IntegerCache"), (0, u "$assertionsDisabled"), (0, u "Z"), (26, u "high"), (0, u "I"), (8, u "archivedCache"), (0, u "[Ljava/lang/Integer;"), (12, u "cache"), (0, u "low")] 27

def k17m0 : Method := { name := "<init>", desc := "()V", sig := { parameters := [], returnType := none }, accessFlags := 2, code := none }
/-- java/lang/Integer$IntegerCache -/
def k17 : Class := { plain "java/lang/Integer$IntegerCache" (some 0) with
  accessFlags := 48
  interfaces := #[]
  cf := some (fileOf pool17 16 #[.nestHost 7] #[{ accessFlags := 2, nameIndex := 5, descriptorIndex := 6, attributes := #[] }] 48 2 #[] #[{ accessFlags := 24, nameIndex := 72, descriptorIndex := 48, attributes := #[] }, { accessFlags := 24, nameIndex := 47, descriptorIndex := 48, attributes := #[] }, { accessFlags := 24, nameIndex := 71, descriptorIndex := 58, attributes := #[] }, { accessFlags := 8, nameIndex := 57, descriptorIndex := 58, attributes := #[] }, { accessFlags := 4120, nameIndex := 19, descriptorIndex := 20, attributes := #[] }])
  fields := #[{ name := "low", type := .int, accessFlags := 24, slot := 0, constantValue := 0 }, { name := "high", type := .int, accessFlags := 24, slot := 1, constantValue := 0 }, { name := "cache", type := (.array (.object "java/lang/Integer")), accessFlags := 24, slot := 2, constantValue := 0 }, { name := "archivedCache", type := (.array (.object "java/lang/Integer")), accessFlags := 8, slot := 3, constantValue := 0 }, { name := "$assertionsDisabled", type := .boolean, accessFlags := 4120, slot := 4, constantValue := 0 }]
  methods := #[k17m0]
  instanceTypes := #[]
  staticTypes := #[.int, .int, (.array (.object "java/lang/Integer")), (.array (.object "java/lang/Integer")), .boolean]
  resolved := Array.replicate 100 none
  statics := some 1 }

def pool18 : Array CpInfo := pool [(1, .class_ 2), (0, u "java/lang/Math"), (1, .class_ 6), (1, u "java/lang/Object"), (0, u "<init>"), (0, u "()V"), (89, .class_ 100), (1, u "java/lang/Math$RandomNumberGeneratorHolder"), (71, u "negativeZeroFloatBits"), (0, u "J"), (2, u "negativeZeroDoubleBits"), (21, u "max"), (2, u "min"), (43, u "$assertionsDisabled"), (0, u "Z"), (88, u "(II)I"), (2, u "twoToTheDoubleScaleDown"), (0, u "D"), (4, u "twoToTheDoubleScaleUp"), (9, u "E"), (3, u "PI"), (2, u "TAU"), (2, u "DEGREES_TO_RADIANS"), (0, u "RADIANS_TO_DEGREES")] 94

def k18m0 : Method := { name := "<init>", desc := "()V", sig := { parameters := [], returnType := none }, accessFlags := 2, code := none }
def k18c1 : Code := { maxStack := 2, maxLocals := 2, code := jdk_29_method_65_code, exceptionTable := #[], attributes := #[] }
def k18m1 : Method := { name := "max", desc := "(II)I", sig := { parameters := [.int, .int], returnType := some .int }, accessFlags := 9, code := some k18c1 }
def k18c2 : Code := { maxStack := 2, maxLocals := 2, code := jdk_29_method_69_code, exceptionTable := #[], attributes := #[] }
def k18m2 : Method := { name := "min", desc := "(II)I", sig := { parameters := [.int, .int], returnType := some .int }, accessFlags := 9, code := some k18c2 }
/-- java/lang/Math -/
def k18 : Class := { plain "java/lang/Math" (some 0) with
  accessFlags := 49
  interfaces := #[]
  cf := some (fileOf pool18 1 #[.nestMembers #[98]] #[{ accessFlags := 2, nameIndex := 7, descriptorIndex := 8, attributes := #[] }, { accessFlags := 9, nameIndex := 198, descriptorIndex := 335, attributes := #[] }, { accessFlags := 9, nameIndex := 201, descriptorIndex := 335, attributes := #[] }] 49 4 #[] #[{ accessFlags := 25, nameIndex := 354, descriptorIndex := 339, attributes := #[] }, { accessFlags := 25, nameIndex := 358, descriptorIndex := 339, attributes := #[] }, { accessFlags := 25, nameIndex := 361, descriptorIndex := 339, attributes := #[] }, { accessFlags := 26, nameIndex := 364, descriptorIndex := 339, attributes := #[] }, { accessFlags := 26, nameIndex := 365, descriptorIndex := 339, attributes := #[] }, { accessFlags := 26, nameIndex := 172, descriptorIndex := 173, attributes := #[] }, { accessFlags := 26, nameIndex := 176, descriptorIndex := 173, attributes := #[] }, { accessFlags := 8, nameIndex := 344, descriptorIndex := 339, attributes := #[] }, { accessFlags := 8, nameIndex := 338, descriptorIndex := 339, attributes := #[] }, { accessFlags := 4120, nameIndex := 245, descriptorIndex := 246, attributes := #[] }])
  fields := #[{ name := "E", type := .double, accessFlags := 25, slot := 0, constantValue := 0 }, { name := "PI", type := .double, accessFlags := 25, slot := 1, constantValue := 0 }, { name := "TAU", type := .double, accessFlags := 25, slot := 2, constantValue := 0 }, { name := "DEGREES_TO_RADIANS", type := .double, accessFlags := 26, slot := 3, constantValue := 0 }, { name := "RADIANS_TO_DEGREES", type := .double, accessFlags := 26, slot := 4, constantValue := 0 }, { name := "negativeZeroFloatBits", type := .long, accessFlags := 26, slot := 5, constantValue := 0 }, { name := "negativeZeroDoubleBits", type := .long, accessFlags := 26, slot := 6, constantValue := 0 }, { name := "twoToTheDoubleScaleUp", type := .double, accessFlags := 8, slot := 7, constantValue := 0 }, { name := "twoToTheDoubleScaleDown", type := .double, accessFlags := 8, slot := 8, constantValue := 0 }, { name := "$assertionsDisabled", type := .boolean, accessFlags := 4120, slot := 9, constantValue := 0 }]
  methods := #[k18m0, k18m1, k18m2]
  instanceTypes := #[]
  staticTypes := #[.double, .double, .double, .double, .double, .long, .long, .double, .double, .boolean]
  resolved := Array.replicate 460 none
  statics := none }

def pool19 : Array CpInfo := pool [(1, .methodref 2 3), (0, .class_ 4), (0, .nameAndType 5 6), (0, u "java/lang/Object"), (0, u "<init>"), (0, u "()V"), (0, .class_ 8), (0, u "java/util/ArrayDeque"), (0, .methodref 7 3), (0, .fieldref 11 12), (0, .class_ 13), (0, .nameAndType 14 15), (0, u "com/example/sandpiper/sandpiper/broker/AwaitingSync"), (0, u "batches"), (0, u "Ljava/util/Deque;"), (0, .class_ 17), (0, u "com/example/sandpiper/sandpiper/broker/AwaitingSync$Batch"), (0, .methodref 16 19), (0, .nameAndType 5 20), (0, u "(JLjava/util/List;)V"), (0, .interfaceMethodref 22 23), (0, .class_ 24), (0, .nameAndType 25 26), (0, u "java/util/Deque"), (0, u "add"), (0, u "(Ljava/lang/Object;)Z"), (0, .class_ 28), (0, u "java/util/ArrayList"), (0, .methodref 27 3), (0, .interfaceMethodref 22 31), (0, .nameAndType 32 33), (0, u "isEmpty"), (0, u "()Z"), (0, .interfaceMethodref 22 35), (0, .nameAndType 36 37), (0, u "peek"), (0, u "()Ljava/lang/Object;"), (0, .methodref 16 39), (0, .nameAndType 40 41), (0, u "lastWrite"), (0, u "()J"), (0, .interfaceMethodref 22 43), (0, .nameAndType 44 37), (0, u "poll"), (0, .methodref 16 46), (0, .nameAndType 47 48), (0, u "kept"), (0, u "()Ljava/util/List;"), (0, .interfaceMethodref 50 51), (0, .class_ 52), (0, .nameAndType 53 54), (0, u "java/util/List"), (0, u "addAll"), (0, u "(Ljava/util/Collection;)Z"), (2, .long 9223372036854775807), (1, .methodref 11 60), (0, .nameAndType 61 62), (0, u "due"), (0, u "(J)Ljava/util/List;"), (0, .interfaceMethodref 22 64), (0, .nameAndType 65 66), (0, u "size"), (0, u "()I"), (7, u "all")] 7

def k19c0 : Code := { maxStack := 3, maxLocals := 1, code := prog_16_method_1_code, exceptionTable := #[], attributes := #[] }
def k19m0 : Method := { name := "<init>", desc := "()V", sig := { parameters := [], returnType := none }, accessFlags := 0, code := some k19c0 }
def k19c1 : Code := { maxStack := 6, maxLocals := 4, code := prog_16_method_2_code, exceptionTable := #[], attributes := #[] }
def k19m1 : Method := { name := "add", desc := "(JLjava/util/List;)V", sig := { parameters := [.long, (.object "java/util/List")], returnType := none }, accessFlags := 0, code := some k19c1 }
def k19c2 : Code := { maxStack := 4, maxLocals := 4, code := prog_16_method_3_code, exceptionTable := #[], attributes := #[] }
def k19m2 : Method := { name := "due", desc := "(J)Ljava/util/List;", sig := { parameters := [.long], returnType := some (.object "java/util/List") }, accessFlags := 0, code := some k19c2 }
def k19c3 : Code := { maxStack := 3, maxLocals := 1, code := prog_16_method_4_code, exceptionTable := #[], attributes := #[] }
def k19m3 : Method := { name := "all", desc := "()Ljava/util/List;", sig := { parameters := [], returnType := some (.object "java/util/List") }, accessFlags := 0, code := some k19c3 }
def k19c4 : Code := { maxStack := 1, maxLocals := 1, code := prog_16_method_5_code, exceptionTable := #[], attributes := #[] }
def k19m4 : Method := { name := "size", desc := "()I", sig := { parameters := [], returnType := some .int }, accessFlags := 0, code := some k19c4 }
/-- com/example/sandpiper/sandpiper/broker/AwaitingSync -/
def k19 : Class := { plain "com/example/sandpiper/sandpiper/broker/AwaitingSync" (some 0) with
  accessFlags := 48
  interfaces := #[]
  cf := some (fileOf pool19 11 #[.nestMembers #[16]] #[{ accessFlags := 0, nameIndex := 5, descriptorIndex := 6, attributes := #[] }, { accessFlags := 0, nameIndex := 25, descriptorIndex := 20, attributes := #[] }, { accessFlags := 0, nameIndex := 61, descriptorIndex := 62, attributes := #[] }, { accessFlags := 0, nameIndex := 74, descriptorIndex := 48, attributes := #[] }, { accessFlags := 0, nameIndex := 65, descriptorIndex := 66, attributes := #[] }] 48 2 #[] #[{ accessFlags := 18, nameIndex := 14, descriptorIndex := 15, attributes := #[] }])
  fields := #[{ name := "batches", type := (.object "java/util/Deque"), accessFlags := 18, slot := 0, constantValue := 0 }]
  methods := #[k19m0, k19m1, k19m2, k19m3, k19m4]
  instanceTypes := #[(.object "java/util/Deque")]
  staticTypes := #[]
  resolved := ((Array.replicate 82 none).setIfInBounds 16 (some (.cls 24))).setIfInBounds 18 (some (.method ⟨24, 0⟩))
  statics := none }

def pool20 : Array CpInfo := pool [(1, .class_ 2), (0, u "java/util/Queue"), (0, .class_ 4), (0, u "java/lang/Object"), (0, .class_ 6), (0, u "java/util/Collection")] 14

/-- java/util/Queue -/
def k20 : Class := { plain "java/util/Queue" (some 0) with
  accessFlags := 1537
  interfaces := #[3]
  cf := some (fileOf pool20 1 #[] #[] 1537 3 #[5] #[])
  fields := #[]
  methods := #[]
  instanceTypes := #[]
  staticTypes := #[]
  resolved := Array.replicate 21 none
  statics := none }

def pool21 : Array CpInfo := pool [(8, .class_ 10), (1, u "java/util/Deque"), (2, .class_ 14), (0, u "java/lang/Object"), (0, .class_ 16), (0, u "java/util/Queue"), (0, .class_ 18), (0, u "java/util/SequencedCollection"), (6, u "(Ljava/lang/Object;)Z"), (3, u "()Ljava/lang/Object;"), (10, u "add"), (2, u "poll"), (1, u "peek"), (6, u "size"), (0, u "()I")] 16

def k21m0 : Method := { name := "add", desc := "(Ljava/lang/Object;)Z", sig := { parameters := [(.object "java/lang/Object")], returnType := some .boolean }, accessFlags := 1025, code := none }
def k21m1 : Method := { name := "poll", desc := "()Ljava/lang/Object;", sig := { parameters := [], returnType := some (.object "java/lang/Object") }, accessFlags := 1025, code := none }
def k21m2 : Method := { name := "peek", desc := "()Ljava/lang/Object;", sig := { parameters := [], returnType := some (.object "java/lang/Object") }, accessFlags := 1025, code := none }
def k21m3 : Method := { name := "size", desc := "()I", sig := { parameters := [], returnType := some .int }, accessFlags := 1025, code := none }
/-- java/util/Deque -/
def k21 : Class := { plain "java/util/Deque" (some 0) with
  accessFlags := 1537
  interfaces := #[20, 5]
  cf := some (fileOf pool21 8 #[] #[{ accessFlags := 1025, nameIndex := 40, descriptorIndex := 25, attributes := #[] }, { accessFlags := 1025, nameIndex := 43, descriptorIndex := 29, attributes := #[] }, { accessFlags := 1025, nameIndex := 45, descriptorIndex := 29, attributes := #[] }, { accessFlags := 1025, nameIndex := 52, descriptorIndex := 53, attributes := #[] }] 1537 13 #[15, 17] #[])
  fields := #[]
  methods := #[k21m0, k21m1, k21m2, k21m3]
  instanceTypes := #[]
  staticTypes := #[]
  resolved := Array.replicate 70 none
  statics := none }

def pool22 : Array CpInfo := pool [(3, .fieldref 4 5), (0, .class_ 6), (0, .nameAndType 7 8), (0, u "java/util/ArrayDeque"), (0, u "elements"), (0, u "[Ljava/lang/Object;"), (4, u "(II)I"), (6, .fieldref 4 21), (0, .nameAndType 22 23), (0, u "tail"), (0, u "I"), (0, .fieldref 4 25), (0, .nameAndType 26 23), (0, u "head"), (12, u "<init>"), (2, .methodref 43 44), (0, .class_ 45), (0, .nameAndType 39 46), (0, u "java/util/AbstractCollection"), (0, u "()V"), (0, .class_ 48), (0, u "java/lang/Object"), (4, u "size"), (0, u "()I"), (19, .methodref 4 75), (0, .nameAndType 76 13), (0, u "inc"), (12, u "(Ljava/lang/Object;)V"), (0, .methodref 4 91), (0, .nameAndType 92 89), (0, u "addLast"), (0, .methodref 4 94), (0, .nameAndType 95 96), (0, u "pollFirst"), (0, u "()Ljava/lang/Object;"), (6, .methodref 4 104), (0, .nameAndType 105 106), (0, u "elementAt"), (0, u "([Ljava/lang/Object;I)Ljava/lang/Object;"), (3, u "(Ljava/lang/Object;)Z"), (13, .methodref 4 125), (0, .nameAndType 126 96), (0, u "peekFirst"), (0, .methodref 4 128), (0, .nameAndType 129 130), (0, u "sub"), (0, u "(III)I"), (0, .class_ 132), (0, u "java/util/ArrayDeque$DeqIterator"), (3, .class_ 137), (0, u "java/util/ArrayDeque$DescendingIterator"), (1, .class_ 140), (0, u "java/util/ArrayDeque$DeqSpliterator"), (137, .class_ 279), (0, u "java/util/Deque"), (0, .class_ 281), (0, u "java/lang/Cloneable"), (0, .class_ 283), (0, u "java/io/Serializable"), (0, u "MAX_ARRAY_SIZE"), (1, u "serialVersionUID"), (0, u "J"), (48, u "add"), (2, u "poll"), (1, u "peek"), (5, u "isEmpty"), (0, u "()Z")] 89

def k22c0 : Code := { maxStack := 2, maxLocals := 1, code := jdk_21_method_3_code, exceptionTable := #[], attributes := #[] }
def k22m0 : Method := { name := "<init>", desc := "()V", sig := { parameters := [], returnType := none }, accessFlags := 1, code := some k22c0 }
def k22c1 : Code := { maxStack := 2, maxLocals := 2, code := jdk_21_method_6_code, exceptionTable := #[], attributes := #[] }
def k22m1 : Method := { name := "inc", desc := "(II)I", sig := { parameters := [.int, .int], returnType := some .int }, accessFlags := 24, code := some k22c1 }
def k22c2 : Code := { maxStack := 2, maxLocals := 3, code := jdk_21_method_9_code, exceptionTable := #[], attributes := #[] }
def k22m2 : Method := { name := "sub", desc := "(III)I", sig := { parameters := [.int, .int, .int], returnType := some .int }, accessFlags := 24, code := some k22c2 }
def k22c3 : Code := { maxStack := 2, maxLocals := 2, code := jdk_21_method_10_code, exceptionTable := #[], attributes := #[] }
def k22m3 : Method := { name := "elementAt", desc := "([Ljava/lang/Object;I)Ljava/lang/Object;", sig := { parameters := [(.array (.object "java/lang/Object")), .int], returnType := some (.object "java/lang/Object") }, accessFlags := 24, code := some k22c3 }
def k22c4 : Code := { maxStack := 4, maxLocals := 3, code := jdk_21_method_13_code, exceptionTable := #[], attributes := #[] }
def k22m4 : Method := { name := "addLast", desc := "(Ljava/lang/Object;)V", sig := { parameters := [(.object "java/lang/Object")], returnType := none }, accessFlags := 1, code := some k22c4 }
def k22c5 : Code := { maxStack := 3, maxLocals := 4, code := jdk_21_method_20_code, exceptionTable := #[], attributes := #[] }
def k22m5 : Method := { name := "pollFirst", desc := "()Ljava/lang/Object;", sig := { parameters := [], returnType := some (.object "java/lang/Object") }, accessFlags := 1, code := some k22c5 }
def k22c6 : Code := { maxStack := 2, maxLocals := 1, code := jdk_21_method_24_code, exceptionTable := #[], attributes := #[] }
def k22m6 : Method := { name := "peekFirst", desc := "()Ljava/lang/Object;", sig := { parameters := [], returnType := some (.object "java/lang/Object") }, accessFlags := 1, code := some k22c6 }
def k22c7 : Code := { maxStack := 2, maxLocals := 2, code := jdk_21_method_28_code, exceptionTable := #[], attributes := #[] }
def k22m7 : Method := { name := "add", desc := "(Ljava/lang/Object;)Z", sig := { parameters := [(.object "java/lang/Object")], returnType := some .boolean }, accessFlags := 1, code := some k22c7 }
def k22c8 : Code := { maxStack := 1, maxLocals := 1, code := jdk_21_method_31_code, exceptionTable := #[], attributes := #[] }
def k22m8 : Method := { name := "poll", desc := "()Ljava/lang/Object;", sig := { parameters := [], returnType := some (.object "java/lang/Object") }, accessFlags := 1, code := some k22c8 }
def k22c9 : Code := { maxStack := 1, maxLocals := 1, code := jdk_21_method_33_code, exceptionTable := #[], attributes := #[] }
def k22m9 : Method := { name := "peek", desc := "()Ljava/lang/Object;", sig := { parameters := [], returnType := some (.object "java/lang/Object") }, accessFlags := 1, code := some k22c9 }
def k22c10 : Code := { maxStack := 3, maxLocals := 1, code := jdk_21_method_37_code, exceptionTable := #[], attributes := #[] }
def k22m10 : Method := { name := "size", desc := "()I", sig := { parameters := [], returnType := some .int }, accessFlags := 1, code := some k22c10 }
def k22c11 : Code := { maxStack := 2, maxLocals := 1, code := jdk_21_method_38_code, exceptionTable := #[], attributes := #[] }
def k22m11 : Method := { name := "isEmpty", desc := "()Z", sig := { parameters := [], returnType := some .boolean }, accessFlags := 1, code := some k22c11 }
/-- java/util/ArrayDeque -/
def k22 : Class := { plain "java/util/ArrayDeque" (some 4) with
  accessFlags := 33
  interfaces := #[21, 9, 10]
  cf := some (fileOf pool22 4 #[.nestMembers #[139, 136, 131]] #[{ accessFlags := 1, nameIndex := 39, descriptorIndex := 46, attributes := #[] }, { accessFlags := 24, nameIndex := 76, descriptorIndex := 13, attributes := #[] }, { accessFlags := 24, nameIndex := 129, descriptorIndex := 130, attributes := #[] }, { accessFlags := 24, nameIndex := 105, descriptorIndex := 106, attributes := #[] }, { accessFlags := 1, nameIndex := 92, descriptorIndex := 89, attributes := #[] }, { accessFlags := 1, nameIndex := 95, descriptorIndex := 96, attributes := #[] }, { accessFlags := 1, nameIndex := 126, descriptorIndex := 96, attributes := #[] }, { accessFlags := 1, nameIndex := 336, descriptorIndex := 110, attributes := #[] }, { accessFlags := 1, nameIndex := 339, descriptorIndex := 96, attributes := #[] }, { accessFlags := 1, nameIndex := 341, descriptorIndex := 96, attributes := #[] }, { accessFlags := 1, nameIndex := 53, descriptorIndex := 54, attributes := #[] }, { accessFlags := 1, nameIndex := 347, descriptorIndex := 348, attributes := #[] }] 33 43 #[278, 280, 282] #[{ accessFlags := 128, nameIndex := 7, descriptorIndex := 8, attributes := #[] }, { accessFlags := 128, nameIndex := 26, descriptorIndex := 23, attributes := #[] }, { accessFlags := 128, nameIndex := 22, descriptorIndex := 23, attributes := #[] }, { accessFlags := 26, nameIndex := 284, descriptorIndex := 23, attributes := #[] }, { accessFlags := 26, nameIndex := 286, descriptorIndex := 287, attributes := #[] }])
  fields := #[{ name := "elements", type := (.array (.object "java/lang/Object")), accessFlags := 128, slot := 0, constantValue := 0 }, { name := "head", type := .int, accessFlags := 128, slot := 1, constantValue := 0 }, { name := "tail", type := .int, accessFlags := 128, slot := 2, constantValue := 0 }, { name := "MAX_ARRAY_SIZE", type := .int, accessFlags := 26, slot := 0, constantValue := 0 }, { name := "serialVersionUID", type := .long, accessFlags := 26, slot := 1, constantValue := 0 }]
  methods := #[k22m0, k22m1, k22m2, k22m3, k22m4, k22m5, k22m6, k22m7, k22m8, k22m9, k22m10, k22m11]
  instanceTypes := #[(.array (.object "java/lang/Object")), .int, .int]
  staticTypes := #[.int, .long]
  resolved := Array.replicate 438 none
  statics := none }

def pool23 : Array CpInfo := pool [(1, .methodref 2 3), (0, .class_ 4), (0, .nameAndType 5 6), (0, u "java/lang/Object"), (0, u "<init>"), (0, u "()V"), (0, .class_ 8), (0, u "java/lang/Record")] 13

def k23c0 : Code := { maxStack := 1, maxLocals := 1, code := jdk_30_method_1_code, exceptionTable := #[], attributes := #[] }
def k23m0 : Method := { name := "<init>", desc := "()V", sig := { parameters := [], returnType := none }, accessFlags := 4, code := some k23c0 }
/-- java/lang/Record -/
def k23 : Class := { plain "java/lang/Record" (some 0) with
  accessFlags := 1057
  interfaces := #[]
  cf := some (fileOf pool23 7 #[] #[{ accessFlags := 4, nameIndex := 5, descriptorIndex := 6, attributes := #[] }] 1057 2 #[] #[])
  fields := #[]
  methods := #[k23m0]
  instanceTypes := #[]
  staticTypes := #[]
  resolved := Array.replicate 22 none
  statics := none }

def pool24 : Array CpInfo := pool [(1, .methodref 2 3), (0, .class_ 4), (0, .nameAndType 5 6), (0, u "java/lang/Record"), (0, u "<init>"), (0, u "()V"), (0, .fieldref 8 9), (0, .class_ 10), (0, .nameAndType 11 12), (0, u "com/example/sandpiper/sandpiper/broker/AwaitingSync$Batch"), (0, u "lastWrite"), (0, u "J"), (0, .fieldref 8 14), (0, .nameAndType 15 16), (0, u "kept"), (0, u "Ljava/util/List;"), (14, u "(JLjava/util/List;)V"), (7, u "()J"), (0, u "()Ljava/util/List;"), (5, .class_ 47), (0, u "com/example/sandpiper/sandpiper/broker/AwaitingSync")] 20

def k24c0 : Code := { maxStack := 3, maxLocals := 4, code := prog_17_method_1_code, exceptionTable := #[], attributes := #[] }
def k24m0 : Method := { name := "<init>", desc := "(JLjava/util/List;)V", sig := { parameters := [.long, (.object "java/util/List")], returnType := none }, accessFlags := 2, code := some k24c0 }
def k24c1 : Code := { maxStack := 2, maxLocals := 1, code := prog_17_method_5_code, exceptionTable := #[], attributes := #[] }
def k24m1 : Method := { name := "lastWrite", desc := "()J", sig := { parameters := [], returnType := some .long }, accessFlags := 1, code := some k24c1 }
def k24c2 : Code := { maxStack := 1, maxLocals := 1, code := prog_17_method_6_code, exceptionTable := #[], attributes := #[] }
def k24m2 : Method := { name := "kept", desc := "()Ljava/util/List;", sig := { parameters := [], returnType := some (.object "java/util/List") }, accessFlags := 1, code := some k24c2 }
/-- com/example/sandpiper/sandpiper/broker/AwaitingSync$Batch -/
def k24 : Class := { plain "com/example/sandpiper/sandpiper/broker/AwaitingSync$Batch" (some 23) with
  accessFlags := 48
  interfaces := #[]
  cf := some (fileOf pool24 8 #[.nestHost 46] #[{ accessFlags := 2, nameIndex := 5, descriptorIndex := 31, attributes := #[] }, { accessFlags := 1, nameIndex := 11, descriptorIndex := 39, attributes := #[] }, { accessFlags := 1, nameIndex := 15, descriptorIndex := 40, attributes := #[] }] 48 2 #[] #[{ accessFlags := 18, nameIndex := 11, descriptorIndex := 12, attributes := #[] }, { accessFlags := 18, nameIndex := 15, descriptorIndex := 16, attributes := #[] }])
  fields := #[{ name := "lastWrite", type := .long, accessFlags := 18, slot := 0, constantValue := 0 }, { name := "kept", type := (.object "java/util/List"), accessFlags := 18, slot := 1, constantValue := 0 }]
  methods := #[k24m0, k24m1, k24m2]
  instanceTypes := #[.long, (.object "java/util/List")]
  staticTypes := #[]
  resolved := Array.replicate 68 none
  statics := none }

def pool25 : Array CpInfo := pool [(2, .class_ 4), (1, u "java/lang/Object"), (0, u "<init>"), (0, u "()V"), (7, .class_ 16), (1, u "java/util/Arrays"), (57, .class_ 76), (1, u "java/util/Arrays$NaturalOrder"), (9, .methodref 2 87), (0, .nameAndType 88 89), (0, u "getClass"), (0, u "()Ljava/lang/Class;"), (20, .class_ 111), (0, u "[Ljava/lang/Object;"), (1, .class_ 115), (1, u "java/util/Arrays$LegacyMergeSort"), (1, u "Z"), (32, .methodref 151 152), (0, .class_ 153), (0, .nameAndType 154 155), (0, u "java/lang/System"), (0, u "arraycopy"), (0, u "(Ljava/lang/Object;ILjava/lang/Object;II)V"), (144, .methodref 14 301), (0, .nameAndType 302 303), (0, u "copyOf"), (0, u "([Ljava/lang/Object;ILjava/lang/Class;)[Ljava/lang/Object;"), (0, .methodref 305 306), (0, .class_ 307), (0, .nameAndType 308 309), (0, u "java/lang/Math"), (0, u "min"), (0, u "(II)I"), (65, .class_ 376), (0, u "java/util/Arrays$ArrayList"), (68, u "$assertionsDisabled"), (269, u "MIN_ARRAY_SORT_GRAN"), (0, u "I"), (2, u "INSERTIONSORT_THRESHOLD"), (140, u "([Ljava/lang/Object;I)[Ljava/lang/Object;"), (114, .class_ 976), (0, u "java/util/Arrays$ArrayItr")] 52

def k25m0 : Method := { name := "<init>", desc := "()V", sig := { parameters := [], returnType := none }, accessFlags := 2, code := none }
def k25c1 : Code := { maxStack := 3, maxLocals := 2, code := jdk_65_method_119_code, exceptionTable := #[], attributes := #[] }
def k25m1 : Method := { name := "copyOf", desc := "([Ljava/lang/Object;I)[Ljava/lang/Object;", sig := { parameters := [(.array (.object "java/lang/Object")), .int], returnType := some (.array (.object "java/lang/Object")) }, accessFlags := 9, code := some k25c1 }
def k25c2 : Code := { maxStack := 6, maxLocals := 4, code := jdk_65_method_120_code, exceptionTable := #[], attributes := #[] }
def k25m2 : Method := { name := "copyOf", desc := "([Ljava/lang/Object;ILjava/lang/Class;)[Ljava/lang/Object;", sig := { parameters := [(.array (.object "java/lang/Object")), .int, (.object "java/lang/Class")], returnType := some (.array (.object "java/lang/Object")) }, accessFlags := 9, code := some k25c2 }
/-- java/util/Arrays -/
def k25 : Class := { plain "java/util/Arrays" (some 0) with
  accessFlags := 49
  interfaces := #[]
  cf := some (fileOf pool25 14 #[.nestMembers #[975, 375, 113, 74]] #[{ accessFlags := 2, nameIndex := 5, descriptorIndex := 6, attributes := #[] }, { accessFlags := 9, nameIndex := 302, descriptorIndex := 860, attributes := #[] }, { accessFlags := 9, nameIndex := 302, descriptorIndex := 303, attributes := #[] }] 49 2 #[] #[{ accessFlags := 26, nameIndex := 715, descriptorIndex := 716, attributes := #[] }, { accessFlags := 26, nameIndex := 719, descriptorIndex := 716, attributes := #[] }, { accessFlags := 4120, nameIndex := 445, descriptorIndex := 117, attributes := #[] }])
  fields := #[{ name := "MIN_ARRAY_SORT_GRAN", type := .int, accessFlags := 26, slot := 0, constantValue := 0 }, { name := "INSERTIONSORT_THRESHOLD", type := .int, accessFlags := 26, slot := 1, constantValue := 0 }, { name := "$assertionsDisabled", type := .boolean, accessFlags := 4120, slot := 2, constantValue := 0 }]
  methods := #[k25m0, k25m1, k25m2]
  instanceTypes := #[]
  staticTypes := #[.int, .int, .boolean]
  resolved := Array.replicate 1029 none
  statics := none }

def pool26 : Array CpInfo := pool [(2, .class_ 4), (1, u "java/lang/Object"), (0, u "<init>"), (0, u "()V"), (1, .class_ 10), (1, u "java/lang/System"), (0, u "allowSecurityManager"), (0, u "I"), (16, u "cons"), (0, u "Ljava/io/Console;"), (77, .class_ 110), (1, u "java/lang/System$CallersHolder"), (43, u "initialErrStream"), (0, u "Ljava/io/PrintStream;"), (19, u "security"), (0, u "Ljava/lang/SecurityManager;"), (31, .class_ 209), (0, u "java/lang/System$1"), (7, u "props"), (0, u "Ljava/util/Properties;"), (2, u "lineSeparator"), (0, u "Ljava/lang/String;"), (96, .class_ 321), (1, u "java/lang/System$LoggerFinder"), (5, .class_ 328), (0, u "java/lang/System$Logger"), (67, u "err"), (2, u "out"), (91, u "notSupportedJnuEncoding"), (15, u "in"), (17, u "initialIn"), (0, u "Ljava/io/InputStream;"), (35, u "bootLayer"), (0, u "Ljava/lang/ModuleLayer;"), (99, .class_ 664), (0, u "java/lang/System$2"), (9, u "NEVER"), (2, u "MAYBE"), (49, u "arraycopy"), (0, u "(Ljava/lang/Object;ILjava/lang/Object;II)V"), (72, .class_ 802), (0, u "java/lang/System$Logger$Level")] 31

def k26m0 : Method := { name := "<init>", desc := "()V", sig := { parameters := [], returnType := none }, accessFlags := 2, code := none }
def k26m1 : Method := { name := "arraycopy", desc := "(Ljava/lang/Object;ILjava/lang/Object;II)V", sig := { parameters := [(.object "java/lang/Object"), .int, (.object "java/lang/Object"), .int, .int], returnType := none }, accessFlags := 265, code := none }
/-- java/lang/System -/
def k26 : Class := { plain "java/lang/System" (some 0) with
  accessFlags := 49
  interfaces := #[]
  cf := some (fileOf pool26 8 #[.nestMembers #[319, 327, 801, 108, 663, 208]] #[{ accessFlags := 2, nameIndex := 5, descriptorIndex := 6, attributes := #[] }, { accessFlags := 265, nameIndex := 727, descriptorIndex := 728, attributes := #[] }] 49 2 #[] #[{ accessFlags := 25, nameIndex := 507, descriptorIndex := 526, attributes := #[] }, { accessFlags := 25, nameIndex := 399, descriptorIndex := 155, attributes := #[] }, { accessFlags := 25, nameIndex := 396, descriptorIndex := 155, attributes := #[] }, { accessFlags := 10, nameIndex := 525, descriptorIndex := 526, attributes := #[] }, { accessFlags := 26, nameIndex := 674, descriptorIndex := 12, attributes := #[] }, { accessFlags := 26, nameIndex := 677, descriptorIndex := 12, attributes := #[] }, { accessFlags := 10, nameIndex := 11, descriptorIndex := 12, attributes := #[] }, { accessFlags := 74, nameIndex := 175, descriptorIndex := 176, attributes := #[] }, { accessFlags := 10, nameIndex := 491, descriptorIndex := 222, attributes := #[] }, { accessFlags := 74, nameIndex := 29, descriptorIndex := 30, attributes := #[] }, { accessFlags := 74, nameIndex := 154, descriptorIndex := 155, attributes := #[] }, { accessFlags := 10, nameIndex := 217, descriptorIndex := 218, attributes := #[] }, { accessFlags := 10, nameIndex := 221, descriptorIndex := 222, attributes := #[] }, { accessFlags := 8, nameIndex := 562, descriptorIndex := 563, attributes := #[] }])
  fields := #[{ name := "in", type := (.object "java/io/InputStream"), accessFlags := 25, slot := 0, constantValue := 0 }, { name := "out", type := (.object "java/io/PrintStream"), accessFlags := 25, slot := 1, constantValue := 0 }, { name := "err", type := (.object "java/io/PrintStream"), accessFlags := 25, slot := 2, constantValue := 0 }, { name := "initialIn", type := (.object "java/io/InputStream"), accessFlags := 10, slot := 3, constantValue := 0 }, { name := "NEVER", type := .int, accessFlags := 26, slot := 4, constantValue := 0 }, { name := "MAYBE", type := .int, accessFlags := 26, slot := 5, constantValue := 0 }, { name := "allowSecurityManager", type := .int, accessFlags := 10, slot := 6, constantValue := 0 }, { name := "security", type := (.object "java/lang/SecurityManager"), accessFlags := 74, slot := 7, constantValue := 0 }, { name := "notSupportedJnuEncoding", type := (.object "java/lang/String"), accessFlags := 10, slot := 8, constantValue := 0 }, { name := "cons", type := (.object "java/io/Console"), accessFlags := 74, slot := 9, constantValue := 0 }, { name := "initialErrStream", type := (.object "java/io/PrintStream"), accessFlags := 74, slot := 10, constantValue := 0 }, { name := "props", type := (.object "java/util/Properties"), accessFlags := 10, slot := 11, constantValue := 0 }, { name := "lineSeparator", type := (.object "java/lang/String"), accessFlags := 10, slot := 12, constantValue := 0 }, { name := "bootLayer", type := (.object "java/lang/ModuleLayer"), accessFlags := 8, slot := 13, constantValue := 0 }]
  methods := #[k26m0, k26m1]
  instanceTypes := #[]
  staticTypes := #[(.object "java/io/InputStream"), (.object "java/io/PrintStream"), (.object "java/io/PrintStream"), (.object "java/io/InputStream"), .int, .int, .int, (.object "java/lang/SecurityManager"), (.object "java/lang/String"), (.object "java/io/Console"), (.object "java/io/PrintStream"), (.object "java/util/Properties"), (.object "java/lang/String"), (.object "java/lang/ModuleLayer")]
  resolved := Array.replicate 834 none
  statics := none }

def pool27 : Array CpInfo := pool [(2, .class_ 4), (1, u "java/lang/Object"), (0, u "<init>"), (0, u "()V"), (35, .class_ 44), (1, u "java/util/Objects"), (60, .methodref 106 107), (0, .class_ 108), (0, .nameAndType 109 110), (0, u "jdk/internal/util/Preconditions"), (0, u "checkIndex"), (0, u "(IILjava/util/function/BiFunction;)I"), (60, u "(II)I")] 12

def k27m0 : Method := { name := "<init>", desc := "()V", sig := { parameters := [], returnType := none }, accessFlags := 2, code := none }
def k27c1 : Code := { maxStack := 3, maxLocals := 2, code := jdk_31_method_17_code, exceptionTable := #[], attributes := #[] }
def k27m1 : Method := { name := "checkIndex", desc := "(II)I", sig := { parameters := [.int, .int], returnType := some .int }, accessFlags := 9, code := some k27c1 }
/-- java/util/Objects -/
def k27 : Class := { plain "java/util/Objects" (some 0) with
  accessFlags := 49
  interfaces := #[]
  cf := some (fileOf pool27 42 #[] #[{ accessFlags := 2, nameIndex := 5, descriptorIndex := 6, attributes := #[] }, { accessFlags := 9, nameIndex := 109, descriptorIndex := 171, attributes := #[] }] 49 2 #[] #[])
  fields := #[]
  methods := #[k27m0, k27m1]
  instanceTypes := #[]
  staticTypes := #[]
  resolved := Array.replicate 184 none
  statics := none }

def pool28 : Array CpInfo := pool [(2, .class_ 4), (1, u "java/lang/Object"), (0, u "<init>"), (0, u "()V"), (17, .class_ 26), (1, u "jdk/internal/util/Preconditions"), (6, u "checkIndex"), (21, .class_ 56), (0, u "jdk/internal/util/Preconditions$4"), (57, .class_ 115), (0, u "jdk/internal/util/Preconditions$1"), (7, u "SIOOBE_FORMATTER"), (0, u "Ljava/util/function/BiFunction;"), (0, .class_ 126), (0, u "jdk/internal/util/Preconditions$2"), (3, u "AIOOBE_FORMATTER"), (0, .class_ 132), (0, u "jdk/internal/util/Preconditions$3"), (3, u "IOOBE_FORMATTER"), (41, u "(IILjava/util/function/BiFunction;)I")] 15

def k28m0 : Method := { name := "<init>", desc := "()V", sig := { parameters := [], returnType := none }, accessFlags := 1, code := none }
def k28c1 : Code := { maxStack := 3, maxLocals := 3, code := jdk_41_method_11_code, exceptionTable := #[], attributes := #[] }
def k28m1 : Method := { name := "checkIndex", desc := "(IILjava/util/function/BiFunction;)I", sig := { parameters := [.int, .int, (.object "java/util/function/BiFunction")], returnType := some .int }, accessFlags := 9, code := some k28c1 }
/-- jdk/internal/util/Preconditions -/
def k28 : Class := { plain "jdk/internal/util/Preconditions" (some 0) with
  accessFlags := 33
  interfaces := #[]
  cf := some (fileOf pool28 24 #[.nestMembers #[55, 131, 125, 114]] #[{ accessFlags := 1, nameIndex := 5, descriptorIndex := 6, attributes := #[] }, { accessFlags := 9, nameIndex := 33, descriptorIndex := 178, attributes := #[] }] 33 2 #[] #[{ accessFlags := 25, nameIndex := 123, descriptorIndex := 124, attributes := #[] }, { accessFlags := 25, nameIndex := 130, descriptorIndex := 124, attributes := #[] }, { accessFlags := 25, nameIndex := 136, descriptorIndex := 124, attributes := #[] }])
  fields := #[{ name := "SIOOBE_FORMATTER", type := (.object "java/util/function/BiFunction"), accessFlags := 25, slot := 0, constantValue := 0 }, { name := "AIOOBE_FORMATTER", type := (.object "java/util/function/BiFunction"), accessFlags := 25, slot := 1, constantValue := 0 }, { name := "IOOBE_FORMATTER", type := (.object "java/util/function/BiFunction"), accessFlags := 25, slot := 2, constantValue := 0 }]
  methods := #[k28m0, k28m1]
  instanceTypes := #[]
  staticTypes := #[(.object "java/util/function/BiFunction"), (.object "java/util/function/BiFunction"), (.object "java/util/function/BiFunction")]
  resolved := Array.replicate 194 none
  statics := none }

def pool29 : Array CpInfo := pool [(1, u "java/lang/Class"), (0, .class_ 1), (0, u "java/lang/Object"), (0, .class_ 3)] 0

/-- java/lang/Class -/
def k29 : Class := { plain "java/lang/Class" (some 0) with
  accessFlags := 49
  interfaces := #[]
  cf := some (fileOf pool29 2 #[] #[] 49 4 #[] #[])
  fields := #[]
  methods := #[]
  instanceTypes := #[]
  staticTypes := #[]
  resolved := Array.replicate 5 none
  statics := none }

/-- the primitive byte -/
def k30 : Class := { plain "byte" none with kind := .primitive 'B', accessFlags := 0x411 }
/-- [B -/
def k31 : Class := { plain "[B" (some 0) with kind := .array 30 .byte, interfaces := #[9, 10], accessFlags := 1041 }

/-- the primitive int -/
def k32 : Class := { plain "int" none with kind := .primitive 'I', accessFlags := 0x411 }
/-- [I -/
def k33 : Class := { plain "[I" (some 0) with kind := .array 32 .int, interfaces := #[9, 10], accessFlags := 1041 }

/-- [Ljava/lang/Integer; -/
def k34 : Class := { plain "[Ljava/lang/Integer;" (some 0) with kind := .array 16 (.object "java/lang/Integer"), interfaces := #[9, 10], accessFlags := 1041 }

/-- [Ljava/lang/Object; -/
def k35 : Class := { plain "[Ljava/lang/Object;" (some 0) with kind := .array 0 (.object "java/lang/Object"), interfaces := #[9, 10], accessFlags := 1041, mirror := some 2 }

def heap : Heap := #[{ cls := 11, slots := #[.long 0, .int 0, .ref 260, .ref 261], vm := .statics 11 },
  { cls := 17, slots := #[.int 0, .int 127, .ref 3, .null, .int 0], vm := .statics 17 },
  { cls := 29, slots := #[], vm := .mirror 35 },
  { cls := 34, slots := #[.ref 4, .ref 5, .ref 6, .ref 7, .ref 8, .ref 9, .ref 10, .ref 11, .ref 12, .ref 13, .ref 14, .ref 15, .ref 16, .ref 17, .ref 18, .ref 19, .ref 20, .ref 21, .ref 22, .ref 23, .ref 24, .ref 25, .ref 26, .ref 27, .ref 28, .ref 29, .ref 30, .ref 31, .ref 32, .ref 33, .ref 34, .ref 35, .ref 36, .ref 37, .ref 38, .ref 39, .ref 40, .ref 41, .ref 42, .ref 43, .ref 44, .ref 45, .ref 46, .ref 47, .ref 48, .ref 49, .ref 50, .ref 51, .ref 52, .ref 53, .ref 54, .ref 55, .ref 56, .ref 57, .ref 58, .ref 59, .ref 60, .ref 61, .ref 62, .ref 63, .ref 64, .ref 65, .ref 66, .ref 67, .ref 68, .ref 69, .ref 70, .ref 71, .ref 72, .ref 73, .ref 74, .ref 75, .ref 76, .ref 77, .ref 78, .ref 79, .ref 80, .ref 81, .ref 82, .ref 83, .ref 84, .ref 85, .ref 86, .ref 87, .ref 88, .ref 89, .ref 90, .ref 91, .ref 92, .ref 93, .ref 94, .ref 95, .ref 96, .ref 97, .ref 98, .ref 99, .ref 100, .ref 101, .ref 102, .ref 103, .ref 104, .ref 105, .ref 106, .ref 107, .ref 108, .ref 109, .ref 110, .ref 111, .ref 112, .ref 113, .ref 114, .ref 115, .ref 116, .ref 117, .ref 118, .ref 119, .ref 120, .ref 121, .ref 122, .ref 123, .ref 124, .ref 125, .ref 126, .ref 127, .ref 128, .ref 129, .ref 130, .ref 131, .ref 132, .ref 133, .ref 134, .ref 135, .ref 136, .ref 137, .ref 138, .ref 139, .ref 140, .ref 141, .ref 142, .ref 143, .ref 144, .ref 145, .ref 146, .ref 147, .ref 148, .ref 149, .ref 150, .ref 151, .ref 152, .ref 153, .ref 154, .ref 155, .ref 156, .ref 157, .ref 158, .ref 159, .ref 160, .ref 161, .ref 162, .ref 163, .ref 164, .ref 165, .ref 166, .ref 167, .ref 168, .ref 169, .ref 170, .ref 171, .ref 172, .ref 173, .ref 174, .ref 175, .ref 176, .ref 177, .ref 178, .ref 179, .ref 180, .ref 181, .ref 182, .ref 183, .ref 184, .ref 185, .ref 186, .ref 187, .ref 188, .ref 189, .ref 190, .ref 191, .ref 192, .ref 193, .ref 194, .ref 195, .ref 196, .ref 197, .ref 198, .ref 199, .ref 200, .ref 201, .ref 202, .ref 203, .ref 204, .ref 205, .ref 206, .ref 207, .ref 208, .ref 209, .ref 210, .ref 211, .ref 212, .ref 213, .ref 214, .ref 215, .ref 216, .ref 217, .ref 218, .ref 219, .ref 220, .ref 221, .ref 222, .ref 223, .ref 224, .ref 225, .ref 226, .ref 227, .ref 228, .ref 229, .ref 230, .ref 231, .ref 232, .ref 233, .ref 234, .ref 235, .ref 236, .ref 237, .ref 238, .ref 239, .ref 240, .ref 241, .ref 242, .ref 243, .ref 244, .ref 245, .ref 246, .ref 247, .ref 248, .ref 249, .ref 250, .ref 251, .ref 252, .ref 253, .ref 254, .ref 255, .ref 256, .ref 257, .ref 258, .ref 259], vm := .none },
  { cls := 16, slots := #[.int (-128)], vm := .none },
  { cls := 16, slots := #[.int (-127)], vm := .none },
  { cls := 16, slots := #[.int (-126)], vm := .none },
  { cls := 16, slots := #[.int (-125)], vm := .none },
  { cls := 16, slots := #[.int (-124)], vm := .none },
  { cls := 16, slots := #[.int (-123)], vm := .none },
  { cls := 16, slots := #[.int (-122)], vm := .none },
  { cls := 16, slots := #[.int (-121)], vm := .none },
  { cls := 16, slots := #[.int (-120)], vm := .none },
  { cls := 16, slots := #[.int (-119)], vm := .none },
  { cls := 16, slots := #[.int (-118)], vm := .none },
  { cls := 16, slots := #[.int (-117)], vm := .none },
  { cls := 16, slots := #[.int (-116)], vm := .none },
  { cls := 16, slots := #[.int (-115)], vm := .none },
  { cls := 16, slots := #[.int (-114)], vm := .none },
  { cls := 16, slots := #[.int (-113)], vm := .none },
  { cls := 16, slots := #[.int (-112)], vm := .none },
  { cls := 16, slots := #[.int (-111)], vm := .none },
  { cls := 16, slots := #[.int (-110)], vm := .none },
  { cls := 16, slots := #[.int (-109)], vm := .none },
  { cls := 16, slots := #[.int (-108)], vm := .none },
  { cls := 16, slots := #[.int (-107)], vm := .none },
  { cls := 16, slots := #[.int (-106)], vm := .none },
  { cls := 16, slots := #[.int (-105)], vm := .none },
  { cls := 16, slots := #[.int (-104)], vm := .none },
  { cls := 16, slots := #[.int (-103)], vm := .none },
  { cls := 16, slots := #[.int (-102)], vm := .none },
  { cls := 16, slots := #[.int (-101)], vm := .none },
  { cls := 16, slots := #[.int (-100)], vm := .none },
  { cls := 16, slots := #[.int (-99)], vm := .none },
  { cls := 16, slots := #[.int (-98)], vm := .none },
  { cls := 16, slots := #[.int (-97)], vm := .none },
  { cls := 16, slots := #[.int (-96)], vm := .none },
  { cls := 16, slots := #[.int (-95)], vm := .none },
  { cls := 16, slots := #[.int (-94)], vm := .none },
  { cls := 16, slots := #[.int (-93)], vm := .none },
  { cls := 16, slots := #[.int (-92)], vm := .none },
  { cls := 16, slots := #[.int (-91)], vm := .none },
  { cls := 16, slots := #[.int (-90)], vm := .none },
  { cls := 16, slots := #[.int (-89)], vm := .none },
  { cls := 16, slots := #[.int (-88)], vm := .none },
  { cls := 16, slots := #[.int (-87)], vm := .none },
  { cls := 16, slots := #[.int (-86)], vm := .none },
  { cls := 16, slots := #[.int (-85)], vm := .none },
  { cls := 16, slots := #[.int (-84)], vm := .none },
  { cls := 16, slots := #[.int (-83)], vm := .none },
  { cls := 16, slots := #[.int (-82)], vm := .none },
  { cls := 16, slots := #[.int (-81)], vm := .none },
  { cls := 16, slots := #[.int (-80)], vm := .none },
  { cls := 16, slots := #[.int (-79)], vm := .none },
  { cls := 16, slots := #[.int (-78)], vm := .none },
  { cls := 16, slots := #[.int (-77)], vm := .none },
  { cls := 16, slots := #[.int (-76)], vm := .none },
  { cls := 16, slots := #[.int (-75)], vm := .none },
  { cls := 16, slots := #[.int (-74)], vm := .none },
  { cls := 16, slots := #[.int (-73)], vm := .none },
  { cls := 16, slots := #[.int (-72)], vm := .none },
  { cls := 16, slots := #[.int (-71)], vm := .none },
  { cls := 16, slots := #[.int (-70)], vm := .none },
  { cls := 16, slots := #[.int (-69)], vm := .none },
  { cls := 16, slots := #[.int (-68)], vm := .none },
  { cls := 16, slots := #[.int (-67)], vm := .none },
  { cls := 16, slots := #[.int (-66)], vm := .none },
  { cls := 16, slots := #[.int (-65)], vm := .none },
  { cls := 16, slots := #[.int (-64)], vm := .none },
  { cls := 16, slots := #[.int (-63)], vm := .none },
  { cls := 16, slots := #[.int (-62)], vm := .none },
  { cls := 16, slots := #[.int (-61)], vm := .none },
  { cls := 16, slots := #[.int (-60)], vm := .none },
  { cls := 16, slots := #[.int (-59)], vm := .none },
  { cls := 16, slots := #[.int (-58)], vm := .none },
  { cls := 16, slots := #[.int (-57)], vm := .none },
  { cls := 16, slots := #[.int (-56)], vm := .none },
  { cls := 16, slots := #[.int (-55)], vm := .none },
  { cls := 16, slots := #[.int (-54)], vm := .none },
  { cls := 16, slots := #[.int (-53)], vm := .none },
  { cls := 16, slots := #[.int (-52)], vm := .none },
  { cls := 16, slots := #[.int (-51)], vm := .none },
  { cls := 16, slots := #[.int (-50)], vm := .none },
  { cls := 16, slots := #[.int (-49)], vm := .none },
  { cls := 16, slots := #[.int (-48)], vm := .none },
  { cls := 16, slots := #[.int (-47)], vm := .none },
  { cls := 16, slots := #[.int (-46)], vm := .none },
  { cls := 16, slots := #[.int (-45)], vm := .none },
  { cls := 16, slots := #[.int (-44)], vm := .none },
  { cls := 16, slots := #[.int (-43)], vm := .none },
  { cls := 16, slots := #[.int (-42)], vm := .none },
  { cls := 16, slots := #[.int (-41)], vm := .none },
  { cls := 16, slots := #[.int (-40)], vm := .none },
  { cls := 16, slots := #[.int (-39)], vm := .none },
  { cls := 16, slots := #[.int (-38)], vm := .none },
  { cls := 16, slots := #[.int (-37)], vm := .none },
  { cls := 16, slots := #[.int (-36)], vm := .none },
  { cls := 16, slots := #[.int (-35)], vm := .none },
  { cls := 16, slots := #[.int (-34)], vm := .none },
  { cls := 16, slots := #[.int (-33)], vm := .none },
  { cls := 16, slots := #[.int (-32)], vm := .none },
  { cls := 16, slots := #[.int (-31)], vm := .none },
  { cls := 16, slots := #[.int (-30)], vm := .none },
  { cls := 16, slots := #[.int (-29)], vm := .none },
  { cls := 16, slots := #[.int (-28)], vm := .none },
  { cls := 16, slots := #[.int (-27)], vm := .none },
  { cls := 16, slots := #[.int (-26)], vm := .none },
  { cls := 16, slots := #[.int (-25)], vm := .none },
  { cls := 16, slots := #[.int (-24)], vm := .none },
  { cls := 16, slots := #[.int (-23)], vm := .none },
  { cls := 16, slots := #[.int (-22)], vm := .none },
  { cls := 16, slots := #[.int (-21)], vm := .none },
  { cls := 16, slots := #[.int (-20)], vm := .none },
  { cls := 16, slots := #[.int (-19)], vm := .none },
  { cls := 16, slots := #[.int (-18)], vm := .none },
  { cls := 16, slots := #[.int (-17)], vm := .none },
  { cls := 16, slots := #[.int (-16)], vm := .none },
  { cls := 16, slots := #[.int (-15)], vm := .none },
  { cls := 16, slots := #[.int (-14)], vm := .none },
  { cls := 16, slots := #[.int (-13)], vm := .none },
  { cls := 16, slots := #[.int (-12)], vm := .none },
  { cls := 16, slots := #[.int (-11)], vm := .none },
  { cls := 16, slots := #[.int (-10)], vm := .none },
  { cls := 16, slots := #[.int (-9)], vm := .none },
  { cls := 16, slots := #[.int (-8)], vm := .none },
  { cls := 16, slots := #[.int (-7)], vm := .none },
  { cls := 16, slots := #[.int (-6)], vm := .none },
  { cls := 16, slots := #[.int (-5)], vm := .none },
  { cls := 16, slots := #[.int (-4)], vm := .none },
  { cls := 16, slots := #[.int (-3)], vm := .none },
  { cls := 16, slots := #[.int (-2)], vm := .none },
  { cls := 16, slots := #[.int (-1)], vm := .none },
  { cls := 16, slots := #[.int (0)], vm := .none },
  { cls := 16, slots := #[.int (1)], vm := .none },
  { cls := 16, slots := #[.int (2)], vm := .none },
  { cls := 16, slots := #[.int (3)], vm := .none },
  { cls := 16, slots := #[.int (4)], vm := .none },
  { cls := 16, slots := #[.int (5)], vm := .none },
  { cls := 16, slots := #[.int (6)], vm := .none },
  { cls := 16, slots := #[.int (7)], vm := .none },
  { cls := 16, slots := #[.int (8)], vm := .none },
  { cls := 16, slots := #[.int (9)], vm := .none },
  { cls := 16, slots := #[.int (10)], vm := .none },
  { cls := 16, slots := #[.int (11)], vm := .none },
  { cls := 16, slots := #[.int (12)], vm := .none },
  { cls := 16, slots := #[.int (13)], vm := .none },
  { cls := 16, slots := #[.int (14)], vm := .none },
  { cls := 16, slots := #[.int (15)], vm := .none },
  { cls := 16, slots := #[.int (16)], vm := .none },
  { cls := 16, slots := #[.int (17)], vm := .none },
  { cls := 16, slots := #[.int (18)], vm := .none },
  { cls := 16, slots := #[.int (19)], vm := .none },
  { cls := 16, slots := #[.int (20)], vm := .none },
  { cls := 16, slots := #[.int (21)], vm := .none },
  { cls := 16, slots := #[.int (22)], vm := .none },
  { cls := 16, slots := #[.int (23)], vm := .none },
  { cls := 16, slots := #[.int (24)], vm := .none },
  { cls := 16, slots := #[.int (25)], vm := .none },
  { cls := 16, slots := #[.int (26)], vm := .none },
  { cls := 16, slots := #[.int (27)], vm := .none },
  { cls := 16, slots := #[.int (28)], vm := .none },
  { cls := 16, slots := #[.int (29)], vm := .none },
  { cls := 16, slots := #[.int (30)], vm := .none },
  { cls := 16, slots := #[.int (31)], vm := .none },
  { cls := 16, slots := #[.int (32)], vm := .none },
  { cls := 16, slots := #[.int (33)], vm := .none },
  { cls := 16, slots := #[.int (34)], vm := .none },
  { cls := 16, slots := #[.int (35)], vm := .none },
  { cls := 16, slots := #[.int (36)], vm := .none },
  { cls := 16, slots := #[.int (37)], vm := .none },
  { cls := 16, slots := #[.int (38)], vm := .none },
  { cls := 16, slots := #[.int (39)], vm := .none },
  { cls := 16, slots := #[.int (40)], vm := .none },
  { cls := 16, slots := #[.int (41)], vm := .none },
  { cls := 16, slots := #[.int (42)], vm := .none },
  { cls := 16, slots := #[.int (43)], vm := .none },
  { cls := 16, slots := #[.int (44)], vm := .none },
  { cls := 16, slots := #[.int (45)], vm := .none },
  { cls := 16, slots := #[.int (46)], vm := .none },
  { cls := 16, slots := #[.int (47)], vm := .none },
  { cls := 16, slots := #[.int (48)], vm := .none },
  { cls := 16, slots := #[.int (49)], vm := .none },
  { cls := 16, slots := #[.int (50)], vm := .none },
  { cls := 16, slots := #[.int (51)], vm := .none },
  { cls := 16, slots := #[.int (52)], vm := .none },
  { cls := 16, slots := #[.int (53)], vm := .none },
  { cls := 16, slots := #[.int (54)], vm := .none },
  { cls := 16, slots := #[.int (55)], vm := .none },
  { cls := 16, slots := #[.int (56)], vm := .none },
  { cls := 16, slots := #[.int (57)], vm := .none },
  { cls := 16, slots := #[.int (58)], vm := .none },
  { cls := 16, slots := #[.int (59)], vm := .none },
  { cls := 16, slots := #[.int (60)], vm := .none },
  { cls := 16, slots := #[.int (61)], vm := .none },
  { cls := 16, slots := #[.int (62)], vm := .none },
  { cls := 16, slots := #[.int (63)], vm := .none },
  { cls := 16, slots := #[.int (64)], vm := .none },
  { cls := 16, slots := #[.int (65)], vm := .none },
  { cls := 16, slots := #[.int (66)], vm := .none },
  { cls := 16, slots := #[.int (67)], vm := .none },
  { cls := 16, slots := #[.int (68)], vm := .none },
  { cls := 16, slots := #[.int (69)], vm := .none },
  { cls := 16, slots := #[.int (70)], vm := .none },
  { cls := 16, slots := #[.int (71)], vm := .none },
  { cls := 16, slots := #[.int (72)], vm := .none },
  { cls := 16, slots := #[.int (73)], vm := .none },
  { cls := 16, slots := #[.int (74)], vm := .none },
  { cls := 16, slots := #[.int (75)], vm := .none },
  { cls := 16, slots := #[.int (76)], vm := .none },
  { cls := 16, slots := #[.int (77)], vm := .none },
  { cls := 16, slots := #[.int (78)], vm := .none },
  { cls := 16, slots := #[.int (79)], vm := .none },
  { cls := 16, slots := #[.int (80)], vm := .none },
  { cls := 16, slots := #[.int (81)], vm := .none },
  { cls := 16, slots := #[.int (82)], vm := .none },
  { cls := 16, slots := #[.int (83)], vm := .none },
  { cls := 16, slots := #[.int (84)], vm := .none },
  { cls := 16, slots := #[.int (85)], vm := .none },
  { cls := 16, slots := #[.int (86)], vm := .none },
  { cls := 16, slots := #[.int (87)], vm := .none },
  { cls := 16, slots := #[.int (88)], vm := .none },
  { cls := 16, slots := #[.int (89)], vm := .none },
  { cls := 16, slots := #[.int (90)], vm := .none },
  { cls := 16, slots := #[.int (91)], vm := .none },
  { cls := 16, slots := #[.int (92)], vm := .none },
  { cls := 16, slots := #[.int (93)], vm := .none },
  { cls := 16, slots := #[.int (94)], vm := .none },
  { cls := 16, slots := #[.int (95)], vm := .none },
  { cls := 16, slots := #[.int (96)], vm := .none },
  { cls := 16, slots := #[.int (97)], vm := .none },
  { cls := 16, slots := #[.int (98)], vm := .none },
  { cls := 16, slots := #[.int (99)], vm := .none },
  { cls := 16, slots := #[.int (100)], vm := .none },
  { cls := 16, slots := #[.int (101)], vm := .none },
  { cls := 16, slots := #[.int (102)], vm := .none },
  { cls := 16, slots := #[.int (103)], vm := .none },
  { cls := 16, slots := #[.int (104)], vm := .none },
  { cls := 16, slots := #[.int (105)], vm := .none },
  { cls := 16, slots := #[.int (106)], vm := .none },
  { cls := 16, slots := #[.int (107)], vm := .none },
  { cls := 16, slots := #[.int (108)], vm := .none },
  { cls := 16, slots := #[.int (109)], vm := .none },
  { cls := 16, slots := #[.int (110)], vm := .none },
  { cls := 16, slots := #[.int (111)], vm := .none },
  { cls := 16, slots := #[.int (112)], vm := .none },
  { cls := 16, slots := #[.int (113)], vm := .none },
  { cls := 16, slots := #[.int (114)], vm := .none },
  { cls := 16, slots := #[.int (115)], vm := .none },
  { cls := 16, slots := #[.int (116)], vm := .none },
  { cls := 16, slots := #[.int (117)], vm := .none },
  { cls := 16, slots := #[.int (118)], vm := .none },
  { cls := 16, slots := #[.int (119)], vm := .none },
  { cls := 16, slots := #[.int (120)], vm := .none },
  { cls := 16, slots := #[.int (121)], vm := .none },
  { cls := 16, slots := #[.int (122)], vm := .none },
  { cls := 16, slots := #[.int (123)], vm := .none },
  { cls := 16, slots := #[.int (124)], vm := .none },
  { cls := 16, slots := #[.int (125)], vm := .none },
  { cls := 16, slots := #[.int (126)], vm := .none },
  { cls := 16, slots := #[.int (127)], vm := .none },
  { cls := 35, slots := #[], vm := .none },
  { cls := 35, slots := #[], vm := .none }]
def classes : Array Class := #[k0, k1, k2, k3, k4, k5, k6, k7, k8, k9, k10, k11, k12, k13, k14, k15, k16, k17, k18, k19, k20, k21, k22, k23, k24, k25, k26, k27, k28, k29, k30, k31, k32, k33, k34, k35]
def interned : List (Array UInt16 × Addr) := []
def slotsUsed : Nat := 521
def theMethod : MethodId := ⟨1, 1⟩
def args0 : Array Value := #[.long 3, .long 1, .long 2, .int 1]
def aboutOver (below : List Frame) : State where
  vm := { classes := classes, interned := interned.toArray }
  heap := heap
  slotsUsed := slotsUsed
  threads := #[{ frames := .invoking theMethod args0 :: below }]
def below0 : List Frame := [.native { method := ⟨0, 0⟩, args := #[] }]
def about1 : State := aboutOver below0
def p0 : Program := .bare "" "" ""
def e0 : Env := launch0.env 0 0 0
theorem w_frames : about1.frames = Frame.invoking theMethod args0 :: below0 := rfl
set_option maxRecDepth 65536 in
theorem w_args : argsFit about1.vm theMethod args0 = true := by decide +kernel
set_option maxRecDepth 65536 in
theorem w_heap : heapFits about1 = true := by decide +kernel
set_option maxRecDepth 65536 in
theorem w_runnable : about1.curStatus? = some .runnable := by decide +kernel
set_option maxRecDepth 65536 in
theorem w_alone : about1.alone = true := by decide +kernel
set_option maxRecDepth 65536 in
theorem w_named : about1.methodNamed? x = some theMethod := by decide +kernel
set_option maxRecDepth 65536 in
theorem w_hears : about1.hears theMethod below0 = true := by decide +kernel
set_option maxRecDepth 65536 in
theorem w_ripe : about1.ripe theMethod args0 below0 = true := by decide +kernel
theorem w_running : about1.status = .running := rfl
set_option maxRecDepth 65536 in
theorem w_room : about1.hasRoom e0.platform room_1 = true :=
  launch0.hasRoom_least _ room_1 (by decide +kernel) (by decide +kernel) (by decide +kernel) (by decide +kernel) (by decide +kernel) (by decide +kernel)
theorem allAtoms_all (ts : List Jvm.Cond) (a : Array Jvm.Value) (st : Jvm.State) : (allAtoms ts).before a st = ts.all (fun c => c.before a st) := by
  induction ts with
  | nil => rfl
  | cons c t ih =>
    show (Jvm.Cond.and c (allAtoms t)).before a st = _
    rw [Jvm.Cond.before_and, ih, List.all_cons]
def words1 : List Jvm.Cond := Jvm.Cond.code x code maxLocals ret :: tables_1
/-- a 'code' word, met by the world's own term for the bytes: nothing is compared byte by byte -/
theorem code_word {y : MethodName} {bytes : ByteArray} {mx : Nat} {rt : Option FieldType} {a : Array Value} {s : State} {m : MethodId} {meth : Method} {c : Code} (h1 : s.methodNamed? y = some m) (h2 : s.vm.method? m = some meth) (h3 : meth.code = some c) (h4 : c.code = bytes)
    (h5 : (c.maxLocals == mx && c.exceptionTable.isEmpty && decide (c.maxStack ≤ mostOperands) && decide (meth.sig.returnType = rt) && !meth.locks && decide (parseMethodDescriptor y.desc = some meth.sig)) = true) : (Jvm.Cond.code y bytes mx rt).before a s = true := by
  simp only [Bool.and_eq_true, beq_iff_eq, Bool.not_eq_true', decide_eq_true_eq] at h5
  obtain ⟨⟨⟨⟨⟨g1, g2⟩, g3⟩, g4⟩, g5⟩, g6⟩ := h5
  simp [Cond.before, Cond.holds, Cond.value, h1, h2, h3, h4, g1, g2, g3, g4, g5, g6]
def isCode : Jvm.Cond → Bool
  | .code _ _ _ _ => true
  | _ => false
theorem all_split {L : List Jvm.Cond} {P : Jvm.Cond → Bool} (h1 : L.all (fun c => isCode c || P c) = true) (h2 : ∀ c ∈ L.filter isCode, P c = true) : L.all P = true := by
  refine List.all_eq_true.mpr fun c hc => ?_
  have h := List.all_eq_true.mp h1 c hc
  rcases Bool.eq_false_or_eq_true (isCode c) with hi | hi
  · exact h2 c (List.mem_filter.mpr ⟨hc, hi⟩)
  · simpa [hi] using h
set_option maxRecDepth 65536 in
theorem w_c0 : (Jvm.Cond.code x code maxLocals ret).before args0 about1 = true := code_word (m := ⟨1, 1⟩) (meth := k1m1) (c := k1c1) (by decide +kernel) rfl rfl rfl (by decide +kernel)
set_option maxRecDepth 65536 in
theorem w_c1 : (Jvm.Cond.code ({ cls := "java/util/ArrayList", name := "<init>", desc := "()V" } : Jvm.MethodName) jdk_38_method_2_code (1 : Nat) (Option.none : Option Jvm.ClassFile.FieldType)).before args0 about1 = true := code_word (m := ⟨11, 0⟩) (meth := k11m0) (c := k11c0) (by decide +kernel) rfl rfl rfl (by decide +kernel)
set_option maxRecDepth 65536 in
theorem w_c2 : (Jvm.Cond.code ({ cls := "java/util/AbstractList", name := "<init>", desc := "()V" } : Jvm.MethodName) jdk_39_method_1_code (1 : Nat) (Option.none : Option Jvm.ClassFile.FieldType)).before args0 about1 = true := code_word (m := ⟨7, 0⟩) (meth := k7m0) (c := k7c0) (by decide +kernel) rfl rfl rfl (by decide +kernel)
set_option maxRecDepth 65536 in
theorem w_c3 : (Jvm.Cond.code ({ cls := "java/util/AbstractCollection", name := "<init>", desc := "()V" } : Jvm.MethodName) jdk_22_method_1_code (1 : Nat) (Option.none : Option Jvm.ClassFile.FieldType)).before args0 about1 = true := code_word (m := ⟨4, 0⟩) (meth := k4m0) (c := k4c0) (by decide +kernel) rfl rfl rfl (by decide +kernel)
set_option maxRecDepth 65536 in
theorem w_c4 : (Jvm.Cond.code ({ cls := "java/lang/Object", name := "<init>", desc := "()V" } : Jvm.MethodName) object_method_1_code (1 : Nat) (Option.none : Option Jvm.ClassFile.FieldType)).before args0 about1 = true := code_word (m := ⟨0, 0⟩) (meth := k0m0) (c := k0c0) (by decide +kernel) rfl rfl rfl (by decide +kernel)
set_option maxRecDepth 65536 in
theorem w_c5 : (Jvm.Cond.code ({ cls := "java/lang/Integer", name := "valueOf", desc := "(I)Ljava/lang/Integer;" } : Jvm.MethodName) jdk_33_method_22_code (1 : Nat) (Option.some (Jvm.ClassFile.FieldType.object "java/lang/Integer"))).before args0 about1 = true := code_word (m := ⟨16, 0⟩) (meth := k16m0) (c := k16c0) (by decide +kernel) rfl rfl rfl (by decide +kernel)
set_option maxRecDepth 65536 in
theorem w_c6 : (Jvm.Cond.code ({ cls := "java/util/ArrayList", name := "add", desc := "(Ljava/lang/Object;)Z" } : Jvm.MethodName) jdk_38_method_25_code (2 : Nat) (Option.some Jvm.ClassFile.FieldType.boolean)).before args0 about1 = true := code_word (m := ⟨11, 8⟩) (meth := k11m8) (c := k11c8) (by decide +kernel) rfl rfl rfl (by decide +kernel)
set_option maxRecDepth 65536 in
theorem w_c7 : (Jvm.Cond.code ({ cls := "java/util/ArrayList", name := "add", desc := "(Ljava/lang/Object;[Ljava/lang/Object;I)V" } : Jvm.MethodName) jdk_38_method_24_code (4 : Nat) (Option.none : Option Jvm.ClassFile.FieldType)).before args0 about1 = true := code_word (m := ⟨11, 7⟩) (meth := k11m7) (c := k11c7) (by decide +kernel) rfl rfl rfl (by decide +kernel)
set_option maxRecDepth 65536 in
theorem w_c8 : (Jvm.Cond.code ({ cls := "java/util/ArrayList", name := "grow", desc := "()[Ljava/lang/Object;" } : Jvm.MethodName) jdk_38_method_7_code (1 : Nat) (Option.some (Jvm.ClassFile.FieldType.array (Jvm.ClassFile.FieldType.object "java/lang/Object")))).before args0 about1 = true := code_word (m := ⟨11, 2⟩) (meth := k11m2) (c := k11c2) (by decide +kernel) rfl rfl rfl (by decide +kernel)
set_option maxRecDepth 65536 in
theorem w_c9 : (Jvm.Cond.code ({ cls := "java/util/ArrayList", name := "grow", desc := "(I)[Ljava/lang/Object;" } : Jvm.MethodName) jdk_38_method_6_code (4 : Nat) (Option.some (Jvm.ClassFile.FieldType.array (Jvm.ClassFile.FieldType.object "java/lang/Object")))).before args0 about1 = true := code_word (m := ⟨11, 1⟩) (meth := k11m1) (c := k11c1) (by decide +kernel) rfl rfl rfl (by decide +kernel)
set_option maxRecDepth 65536 in
theorem w_c10 : (Jvm.Cond.code ({ cls := "java/lang/Math", name := "max", desc := "(II)I" } : Jvm.MethodName) jdk_29_method_65_code (2 : Nat) (Option.some Jvm.ClassFile.FieldType.int)).before args0 about1 = true := code_word (m := ⟨18, 1⟩) (meth := k18m1) (c := k18c1) (by decide +kernel) rfl rfl rfl (by decide +kernel)
set_option maxRecDepth 65536 in
theorem w_c11 : (Jvm.Cond.code ({ cls := "com/example/sandpiper/sandpiper/broker/AwaitingSync", name := "<init>", desc := "()V" } : Jvm.MethodName) prog_16_method_1_code (1 : Nat) (Option.none : Option Jvm.ClassFile.FieldType)).before args0 about1 = true := code_word (m := ⟨19, 0⟩) (meth := k19m0) (c := k19c0) (by decide +kernel) rfl rfl rfl (by decide +kernel)
set_option maxRecDepth 65536 in
theorem w_c12 : (Jvm.Cond.code ({ cls := "java/util/ArrayDeque", name := "<init>", desc := "()V" } : Jvm.MethodName) jdk_21_method_3_code (1 : Nat) (Option.none : Option Jvm.ClassFile.FieldType)).before args0 about1 = true := code_word (m := ⟨22, 0⟩) (meth := k22m0) (c := k22c0) (by decide +kernel) rfl rfl rfl (by decide +kernel)
set_option maxRecDepth 65536 in
theorem w_c13 : (Jvm.Cond.code ({ cls := "com/example/sandpiper/sandpiper/broker/AwaitingSync", name := "add", desc := "(JLjava/util/List;)V" } : Jvm.MethodName) prog_16_method_2_code (4 : Nat) (Option.none : Option Jvm.ClassFile.FieldType)).before args0 about1 = true := code_word (m := ⟨19, 1⟩) (meth := k19m1) (c := k19c1) (by decide +kernel) rfl rfl rfl (by decide +kernel)
set_option maxRecDepth 65536 in
theorem w_c14 : (Jvm.Cond.code ({ cls := "com/example/sandpiper/sandpiper/broker/AwaitingSync$Batch", name := "<init>", desc := "(JLjava/util/List;)V" } : Jvm.MethodName) prog_17_method_1_code (4 : Nat) (Option.none : Option Jvm.ClassFile.FieldType)).before args0 about1 = true := code_word (m := ⟨24, 0⟩) (meth := k24m0) (c := k24c0) (by decide +kernel) rfl rfl rfl (by decide +kernel)
set_option maxRecDepth 65536 in
theorem w_c15 : (Jvm.Cond.code ({ cls := "java/lang/Record", name := "<init>", desc := "()V" } : Jvm.MethodName) jdk_30_method_1_code (1 : Nat) (Option.none : Option Jvm.ClassFile.FieldType)).before args0 about1 = true := code_word (m := ⟨23, 0⟩) (meth := k23m0) (c := k23c0) (by decide +kernel) rfl rfl rfl (by decide +kernel)
set_option maxRecDepth 65536 in
theorem w_c16 : (Jvm.Cond.code ({ cls := "java/util/ArrayDeque", name := "add", desc := "(Ljava/lang/Object;)Z" } : Jvm.MethodName) jdk_21_method_28_code (2 : Nat) (Option.some Jvm.ClassFile.FieldType.boolean)).before args0 about1 = true := code_word (m := ⟨22, 7⟩) (meth := k22m7) (c := k22c7) (by decide +kernel) rfl rfl rfl (by decide +kernel)
set_option maxRecDepth 65536 in
theorem w_c17 : (Jvm.Cond.code ({ cls := "java/util/ArrayDeque", name := "addLast", desc := "(Ljava/lang/Object;)V" } : Jvm.MethodName) jdk_21_method_13_code (3 : Nat) (Option.none : Option Jvm.ClassFile.FieldType)).before args0 about1 = true := code_word (m := ⟨22, 4⟩) (meth := k22m4) (c := k22c4) (by decide +kernel) rfl rfl rfl (by decide +kernel)
set_option maxRecDepth 65536 in
theorem w_c18 : (Jvm.Cond.code ({ cls := "java/util/ArrayDeque", name := "inc", desc := "(II)I" } : Jvm.MethodName) jdk_21_method_6_code (2 : Nat) (Option.some Jvm.ClassFile.FieldType.int)).before args0 about1 = true := code_word (m := ⟨22, 1⟩) (meth := k22m1) (c := k22c1) (by decide +kernel) rfl rfl rfl (by decide +kernel)
set_option maxRecDepth 65536 in
theorem w_c19 : (Jvm.Cond.code ({ cls := "com/example/sandpiper/sandpiper/broker/AwaitingSync", name := "size", desc := "()I" } : Jvm.MethodName) prog_16_method_5_code (1 : Nat) (Option.some Jvm.ClassFile.FieldType.int)).before args0 about1 = true := code_word (m := ⟨19, 4⟩) (meth := k19m4) (c := k19c4) (by decide +kernel) rfl rfl rfl (by decide +kernel)
set_option maxRecDepth 65536 in
theorem w_c20 : (Jvm.Cond.code ({ cls := "java/util/ArrayDeque", name := "size", desc := "()I" } : Jvm.MethodName) jdk_21_method_37_code (1 : Nat) (Option.some Jvm.ClassFile.FieldType.int)).before args0 about1 = true := code_word (m := ⟨22, 10⟩) (meth := k22m10) (c := k22c10) (by decide +kernel) rfl rfl rfl (by decide +kernel)
set_option maxRecDepth 65536 in
theorem w_c21 : (Jvm.Cond.code ({ cls := "java/util/ArrayDeque", name := "sub", desc := "(III)I" } : Jvm.MethodName) jdk_21_method_9_code (3 : Nat) (Option.some Jvm.ClassFile.FieldType.int)).before args0 about1 = true := code_word (m := ⟨22, 2⟩) (meth := k22m2) (c := k22c2) (by decide +kernel) rfl rfl rfl (by decide +kernel)
set_option maxRecDepth 65536 in
theorem w_c22 : (Jvm.Cond.code ({ cls := "com/example/sandpiper/sandpiper/broker/AwaitingSync", name := "due", desc := "(J)Ljava/util/List;" } : Jvm.MethodName) prog_16_method_3_code (4 : Nat) (Option.some (Jvm.ClassFile.FieldType.object "java/util/List"))).before args0 about1 = true := code_word (m := ⟨19, 2⟩) (meth := k19m2) (c := k19c2) (by decide +kernel) rfl rfl rfl (by decide +kernel)
set_option maxRecDepth 65536 in
theorem w_c23 : (Jvm.Cond.code ({ cls := "java/util/ArrayDeque", name := "isEmpty", desc := "()Z" } : Jvm.MethodName) jdk_21_method_38_code (1 : Nat) (Option.some Jvm.ClassFile.FieldType.boolean)).before args0 about1 = true := code_word (m := ⟨22, 11⟩) (meth := k22m11) (c := k22c11) (by decide +kernel) rfl rfl rfl (by decide +kernel)
set_option maxRecDepth 65536 in
theorem w_c24 : (Jvm.Cond.code ({ cls := "java/util/ArrayDeque", name := "peek", desc := "()Ljava/lang/Object;" } : Jvm.MethodName) jdk_21_method_33_code (1 : Nat) (Option.some (Jvm.ClassFile.FieldType.object "java/lang/Object"))).before args0 about1 = true := code_word (m := ⟨22, 9⟩) (meth := k22m9) (c := k22c9) (by decide +kernel) rfl rfl rfl (by decide +kernel)
set_option maxRecDepth 65536 in
theorem w_c25 : (Jvm.Cond.code ({ cls := "java/util/ArrayDeque", name := "peekFirst", desc := "()Ljava/lang/Object;" } : Jvm.MethodName) jdk_21_method_24_code (1 : Nat) (Option.some (Jvm.ClassFile.FieldType.object "java/lang/Object"))).before args0 about1 = true := code_word (m := ⟨22, 6⟩) (meth := k22m6) (c := k22c6) (by decide +kernel) rfl rfl rfl (by decide +kernel)
set_option maxRecDepth 65536 in
theorem w_c26 : (Jvm.Cond.code ({ cls := "java/util/ArrayDeque", name := "elementAt", desc := "([Ljava/lang/Object;I)Ljava/lang/Object;" } : Jvm.MethodName) jdk_21_method_10_code (2 : Nat) (Option.some (Jvm.ClassFile.FieldType.object "java/lang/Object"))).before args0 about1 = true := code_word (m := ⟨22, 3⟩) (meth := k22m3) (c := k22c3) (by decide +kernel) rfl rfl rfl (by decide +kernel)
set_option maxRecDepth 65536 in
theorem w_c27 : (Jvm.Cond.code ({ cls := "com/example/sandpiper/sandpiper/broker/AwaitingSync$Batch", name := "lastWrite", desc := "()J" } : Jvm.MethodName) prog_17_method_5_code (1 : Nat) (Option.some Jvm.ClassFile.FieldType.long)).before args0 about1 = true := code_word (m := ⟨24, 1⟩) (meth := k24m1) (c := k24c1) (by decide +kernel) rfl rfl rfl (by decide +kernel)
set_option maxRecDepth 65536 in
theorem w_c28 : (Jvm.Cond.code ({ cls := "com/example/sandpiper/sandpiper/broker/AwaitingSyncAddPinLaw", name := "same", desc := "(Ljava/util/List;Ljava/util/List;)Z" } : Jvm.MethodName) method_3_code (3 : Nat) (Option.some Jvm.ClassFile.FieldType.boolean)).before args0 about1 = true := code_word (m := ⟨1, 2⟩) (meth := k1m2) (c := k1c2) (by decide +kernel) rfl rfl rfl (by decide +kernel)
set_option maxRecDepth 65536 in
theorem w_c29 : (Jvm.Cond.code ({ cls := "java/util/ArrayList", name := "size", desc := "()I" } : Jvm.MethodName) jdk_38_method_8_code (1 : Nat) (Option.some Jvm.ClassFile.FieldType.int)).before args0 about1 = true := code_word (m := ⟨11, 3⟩) (meth := k11m3) (c := k11c3) (by decide +kernel) rfl rfl rfl (by decide +kernel)
set_option maxRecDepth 65536 in
theorem w_c30 : (Jvm.Cond.code ({ cls := "com/example/sandpiper/sandpiper/broker/AwaitingSync", name := "all", desc := "()Ljava/util/List;" } : Jvm.MethodName) prog_16_method_4_code (1 : Nat) (Option.some (Jvm.ClassFile.FieldType.object "java/util/List"))).before args0 about1 = true := code_word (m := ⟨19, 3⟩) (meth := k19m3) (c := k19c3) (by decide +kernel) rfl rfl rfl (by decide +kernel)
set_option maxRecDepth 65536 in
theorem w_c31 : (Jvm.Cond.code ({ cls := "java/util/ArrayDeque", name := "poll", desc := "()Ljava/lang/Object;" } : Jvm.MethodName) jdk_21_method_31_code (1 : Nat) (Option.some (Jvm.ClassFile.FieldType.object "java/lang/Object"))).before args0 about1 = true := code_word (m := ⟨22, 8⟩) (meth := k22m8) (c := k22c8) (by decide +kernel) rfl rfl rfl (by decide +kernel)
set_option maxRecDepth 65536 in
theorem w_c32 : (Jvm.Cond.code ({ cls := "java/util/ArrayDeque", name := "pollFirst", desc := "()Ljava/lang/Object;" } : Jvm.MethodName) jdk_21_method_20_code (4 : Nat) (Option.some (Jvm.ClassFile.FieldType.object "java/lang/Object"))).before args0 about1 = true := code_word (m := ⟨22, 5⟩) (meth := k22m5) (c := k22c5) (by decide +kernel) rfl rfl rfl (by decide +kernel)
set_option maxRecDepth 65536 in
theorem w_c33 : (Jvm.Cond.code ({ cls := "com/example/sandpiper/sandpiper/broker/AwaitingSync$Batch", name := "kept", desc := "()Ljava/util/List;" } : Jvm.MethodName) prog_17_method_6_code (1 : Nat) (Option.some (Jvm.ClassFile.FieldType.object "java/util/List"))).before args0 about1 = true := code_word (m := ⟨24, 2⟩) (meth := k24m2) (c := k24c2) (by decide +kernel) rfl rfl rfl (by decide +kernel)
set_option maxRecDepth 65536 in
theorem w_c34 : (Jvm.Cond.code ({ cls := "java/util/ArrayList", name := "addAll", desc := "(Ljava/util/Collection;)Z" } : Jvm.MethodName) jdk_38_method_41_code (6 : Nat) (Option.some Jvm.ClassFile.FieldType.boolean)).before args0 about1 = true := code_word (m := ⟨11, 9⟩) (meth := k11m9) (c := k11c9) (by decide +kernel) rfl rfl rfl (by decide +kernel)
set_option maxRecDepth 65536 in
theorem w_c35 : (Jvm.Cond.code ({ cls := "java/util/ArrayList", name := "toArray", desc := "()[Ljava/lang/Object;" } : Jvm.MethodName) jdk_38_method_16_code (1 : Nat) (Option.some (Jvm.ClassFile.FieldType.array (Jvm.ClassFile.FieldType.object "java/lang/Object")))).before args0 about1 = true := code_word (m := ⟨11, 4⟩) (meth := k11m4) (c := k11c4) (by decide +kernel) rfl rfl rfl (by decide +kernel)
set_option maxRecDepth 65536 in
theorem w_c36 : (Jvm.Cond.code ({ cls := "java/util/Arrays", name := "copyOf", desc := "([Ljava/lang/Object;I)[Ljava/lang/Object;" } : Jvm.MethodName) jdk_65_method_119_code (2 : Nat) (Option.some (Jvm.ClassFile.FieldType.array (Jvm.ClassFile.FieldType.object "java/lang/Object")))).before args0 about1 = true := code_word (m := ⟨25, 1⟩) (meth := k25m1) (c := k25c1) (by decide +kernel) rfl rfl rfl (by decide +kernel)
set_option maxRecDepth 65536 in
theorem w_c37 : (Jvm.Cond.code ({ cls := "java/util/Arrays", name := "copyOf", desc := "([Ljava/lang/Object;ILjava/lang/Class;)[Ljava/lang/Object;" } : Jvm.MethodName) jdk_65_method_120_code (4 : Nat) (Option.some (Jvm.ClassFile.FieldType.array (Jvm.ClassFile.FieldType.object "java/lang/Object")))).before args0 about1 = true := code_word (m := ⟨25, 2⟩) (meth := k25m2) (c := k25c2) (by decide +kernel) rfl rfl rfl (by decide +kernel)
set_option maxRecDepth 65536 in
theorem w_c38 : (Jvm.Cond.code ({ cls := "java/lang/Math", name := "min", desc := "(II)I" } : Jvm.MethodName) jdk_29_method_69_code (2 : Nat) (Option.some Jvm.ClassFile.FieldType.int)).before args0 about1 = true := code_word (m := ⟨18, 2⟩) (meth := k18m2) (c := k18c2) (by decide +kernel) rfl rfl rfl (by decide +kernel)
set_option maxRecDepth 65536 in
theorem w_c39 : (Jvm.Cond.code ({ cls := "java/util/ArrayList", name := "get", desc := "(I)Ljava/lang/Object;" } : Jvm.MethodName) jdk_38_method_20_code (2 : Nat) (Option.some (Jvm.ClassFile.FieldType.object "java/lang/Object"))).before args0 about1 = true := code_word (m := ⟨11, 6⟩) (meth := k11m6) (c := k11c6) (by decide +kernel) rfl rfl rfl (by decide +kernel)
set_option maxRecDepth 65536 in
theorem w_c40 : (Jvm.Cond.code ({ cls := "java/util/Objects", name := "checkIndex", desc := "(II)I" } : Jvm.MethodName) jdk_31_method_17_code (2 : Nat) (Option.some Jvm.ClassFile.FieldType.int)).before args0 about1 = true := code_word (m := ⟨27, 1⟩) (meth := k27m1) (c := k27c1) (by decide +kernel) rfl rfl rfl (by decide +kernel)
set_option maxRecDepth 65536 in
theorem w_c41 : (Jvm.Cond.code ({ cls := "jdk/internal/util/Preconditions", name := "checkIndex", desc := "(IILjava/util/function/BiFunction;)I" } : Jvm.MethodName) jdk_41_method_11_code (3 : Nat) (Option.some Jvm.ClassFile.FieldType.int)).before args0 about1 = true := code_word (m := ⟨28, 1⟩) (meth := k28m1) (c := k28c1) (by decide +kernel) rfl rfl rfl (by decide +kernel)
set_option maxRecDepth 65536 in
theorem w_c42 : (Jvm.Cond.code ({ cls := "java/util/ArrayList", name := "elementData", desc := "(I)Ljava/lang/Object;" } : Jvm.MethodName) jdk_38_method_18_code (2 : Nat) (Option.some (Jvm.ClassFile.FieldType.object "java/lang/Object"))).before args0 about1 = true := code_word (m := ⟨11, 5⟩) (meth := k11m5) (c := k11c5) (by decide +kernel) rfl rfl rfl (by decide +kernel)
set_option maxRecDepth 65536 in
theorem w_c43 : (Jvm.Cond.code ({ cls := "java/lang/Integer", name := "intValue", desc := "()I" } : Jvm.MethodName) jdk_33_method_27_code (1 : Nat) (Option.some Jvm.ClassFile.FieldType.int)).before args0 about1 = true := code_word (m := ⟨16, 1⟩) (meth := k16m1) (c := k16c1) (by decide +kernel) rfl rfl rfl (by decide +kernel)
def codes1 : List Jvm.Cond := [Jvm.Cond.code x code maxLocals ret, Jvm.Cond.code ({ cls := "java/util/ArrayList", name := "<init>", desc := "()V" } : Jvm.MethodName) jdk_38_method_2_code (1 : Nat) (Option.none : Option Jvm.ClassFile.FieldType), Jvm.Cond.code ({ cls := "java/util/AbstractList", name := "<init>", desc := "()V" } : Jvm.MethodName) jdk_39_method_1_code (1 : Nat) (Option.none : Option Jvm.ClassFile.FieldType), Jvm.Cond.code ({ cls := "java/util/AbstractCollection", name := "<init>", desc := "()V" } : Jvm.MethodName) jdk_22_method_1_code (1 : Nat) (Option.none : Option Jvm.ClassFile.FieldType), Jvm.Cond.code ({ cls := "java/lang/Object", name := "<init>", desc := "()V" } : Jvm.MethodName) object_method_1_code (1 : Nat) (Option.none : Option Jvm.ClassFile.FieldType), Jvm.Cond.code ({ cls := "java/lang/Integer", name := "valueOf", desc := "(I)Ljava/lang/Integer;" } : Jvm.MethodName) jdk_33_method_22_code (1 : Nat) (Option.some (Jvm.ClassFile.FieldType.object "java/lang/Integer")), Jvm.Cond.code ({ cls := "java/util/ArrayList", name := "add", desc := "(Ljava/lang/Object;)Z" } : Jvm.MethodName) jdk_38_method_25_code (2 : Nat) (Option.some Jvm.ClassFile.FieldType.boolean), Jvm.Cond.code ({ cls := "java/util/ArrayList", name := "add", desc := "(Ljava/lang/Object;[Ljava/lang/Object;I)V" } : Jvm.MethodName) jdk_38_method_24_code (4 : Nat) (Option.none : Option Jvm.ClassFile.FieldType), Jvm.Cond.code ({ cls := "java/util/ArrayList", name := "grow", desc := "()[Ljava/lang/Object;" } : Jvm.MethodName) jdk_38_method_7_code (1 : Nat) (Option.some (Jvm.ClassFile.FieldType.array (Jvm.ClassFile.FieldType.object "java/lang/Object"))), Jvm.Cond.code ({ cls := "java/util/ArrayList", name := "grow", desc := "(I)[Ljava/lang/Object;" } : Jvm.MethodName) jdk_38_method_6_code (4 : Nat) (Option.some (Jvm.ClassFile.FieldType.array (Jvm.ClassFile.FieldType.object "java/lang/Object"))), Jvm.Cond.code ({ cls := "java/lang/Math", name := "max", desc := "(II)I" } : Jvm.MethodName) jdk_29_method_65_code (2 : Nat) (Option.some Jvm.ClassFile.FieldType.int), Jvm.Cond.code ({ cls := "com/example/sandpiper/sandpiper/broker/AwaitingSync", name := "<init>", desc := "()V" } : Jvm.MethodName) prog_16_method_1_code (1 : Nat) (Option.none : Option Jvm.ClassFile.FieldType), Jvm.Cond.code ({ cls := "java/util/ArrayDeque", name := "<init>", desc := "()V" } : Jvm.MethodName) jdk_21_method_3_code (1 : Nat) (Option.none : Option Jvm.ClassFile.FieldType), Jvm.Cond.code ({ cls := "com/example/sandpiper/sandpiper/broker/AwaitingSync", name := "add", desc := "(JLjava/util/List;)V" } : Jvm.MethodName) prog_16_method_2_code (4 : Nat) (Option.none : Option Jvm.ClassFile.FieldType), Jvm.Cond.code ({ cls := "com/example/sandpiper/sandpiper/broker/AwaitingSync$Batch", name := "<init>", desc := "(JLjava/util/List;)V" } : Jvm.MethodName) prog_17_method_1_code (4 : Nat) (Option.none : Option Jvm.ClassFile.FieldType), Jvm.Cond.code ({ cls := "java/lang/Record", name := "<init>", desc := "()V" } : Jvm.MethodName) jdk_30_method_1_code (1 : Nat) (Option.none : Option Jvm.ClassFile.FieldType), Jvm.Cond.code ({ cls := "java/util/ArrayDeque", name := "add", desc := "(Ljava/lang/Object;)Z" } : Jvm.MethodName) jdk_21_method_28_code (2 : Nat) (Option.some Jvm.ClassFile.FieldType.boolean), Jvm.Cond.code ({ cls := "java/util/ArrayDeque", name := "addLast", desc := "(Ljava/lang/Object;)V" } : Jvm.MethodName) jdk_21_method_13_code (3 : Nat) (Option.none : Option Jvm.ClassFile.FieldType), Jvm.Cond.code ({ cls := "java/util/ArrayDeque", name := "inc", desc := "(II)I" } : Jvm.MethodName) jdk_21_method_6_code (2 : Nat) (Option.some Jvm.ClassFile.FieldType.int), Jvm.Cond.code ({ cls := "com/example/sandpiper/sandpiper/broker/AwaitingSync", name := "size", desc := "()I" } : Jvm.MethodName) prog_16_method_5_code (1 : Nat) (Option.some Jvm.ClassFile.FieldType.int), Jvm.Cond.code ({ cls := "java/util/ArrayDeque", name := "size", desc := "()I" } : Jvm.MethodName) jdk_21_method_37_code (1 : Nat) (Option.some Jvm.ClassFile.FieldType.int), Jvm.Cond.code ({ cls := "java/util/ArrayDeque", name := "sub", desc := "(III)I" } : Jvm.MethodName) jdk_21_method_9_code (3 : Nat) (Option.some Jvm.ClassFile.FieldType.int), Jvm.Cond.code ({ cls := "com/example/sandpiper/sandpiper/broker/AwaitingSync", name := "due", desc := "(J)Ljava/util/List;" } : Jvm.MethodName) prog_16_method_3_code (4 : Nat) (Option.some (Jvm.ClassFile.FieldType.object "java/util/List")), Jvm.Cond.code ({ cls := "java/util/ArrayDeque", name := "isEmpty", desc := "()Z" } : Jvm.MethodName) jdk_21_method_38_code (1 : Nat) (Option.some Jvm.ClassFile.FieldType.boolean), Jvm.Cond.code ({ cls := "java/util/ArrayDeque", name := "peek", desc := "()Ljava/lang/Object;" } : Jvm.MethodName) jdk_21_method_33_code (1 : Nat) (Option.some (Jvm.ClassFile.FieldType.object "java/lang/Object")), Jvm.Cond.code ({ cls := "java/util/ArrayDeque", name := "peekFirst", desc := "()Ljava/lang/Object;" } : Jvm.MethodName) jdk_21_method_24_code (1 : Nat) (Option.some (Jvm.ClassFile.FieldType.object "java/lang/Object")), Jvm.Cond.code ({ cls := "java/util/ArrayDeque", name := "elementAt", desc := "([Ljava/lang/Object;I)Ljava/lang/Object;" } : Jvm.MethodName) jdk_21_method_10_code (2 : Nat) (Option.some (Jvm.ClassFile.FieldType.object "java/lang/Object")), Jvm.Cond.code ({ cls := "com/example/sandpiper/sandpiper/broker/AwaitingSync$Batch", name := "lastWrite", desc := "()J" } : Jvm.MethodName) prog_17_method_5_code (1 : Nat) (Option.some Jvm.ClassFile.FieldType.long), Jvm.Cond.code ({ cls := "com/example/sandpiper/sandpiper/broker/AwaitingSyncAddPinLaw", name := "same", desc := "(Ljava/util/List;Ljava/util/List;)Z" } : Jvm.MethodName) method_3_code (3 : Nat) (Option.some Jvm.ClassFile.FieldType.boolean), Jvm.Cond.code ({ cls := "java/util/ArrayList", name := "size", desc := "()I" } : Jvm.MethodName) jdk_38_method_8_code (1 : Nat) (Option.some Jvm.ClassFile.FieldType.int), Jvm.Cond.code ({ cls := "com/example/sandpiper/sandpiper/broker/AwaitingSync", name := "all", desc := "()Ljava/util/List;" } : Jvm.MethodName) prog_16_method_4_code (1 : Nat) (Option.some (Jvm.ClassFile.FieldType.object "java/util/List")), Jvm.Cond.code ({ cls := "java/util/ArrayDeque", name := "poll", desc := "()Ljava/lang/Object;" } : Jvm.MethodName) jdk_21_method_31_code (1 : Nat) (Option.some (Jvm.ClassFile.FieldType.object "java/lang/Object")), Jvm.Cond.code ({ cls := "java/util/ArrayDeque", name := "pollFirst", desc := "()Ljava/lang/Object;" } : Jvm.MethodName) jdk_21_method_20_code (4 : Nat) (Option.some (Jvm.ClassFile.FieldType.object "java/lang/Object")), Jvm.Cond.code ({ cls := "com/example/sandpiper/sandpiper/broker/AwaitingSync$Batch", name := "kept", desc := "()Ljava/util/List;" } : Jvm.MethodName) prog_17_method_6_code (1 : Nat) (Option.some (Jvm.ClassFile.FieldType.object "java/util/List")), Jvm.Cond.code ({ cls := "java/util/ArrayList", name := "addAll", desc := "(Ljava/util/Collection;)Z" } : Jvm.MethodName) jdk_38_method_41_code (6 : Nat) (Option.some Jvm.ClassFile.FieldType.boolean), Jvm.Cond.code ({ cls := "java/util/ArrayList", name := "toArray", desc := "()[Ljava/lang/Object;" } : Jvm.MethodName) jdk_38_method_16_code (1 : Nat) (Option.some (Jvm.ClassFile.FieldType.array (Jvm.ClassFile.FieldType.object "java/lang/Object"))), Jvm.Cond.code ({ cls := "java/util/Arrays", name := "copyOf", desc := "([Ljava/lang/Object;I)[Ljava/lang/Object;" } : Jvm.MethodName) jdk_65_method_119_code (2 : Nat) (Option.some (Jvm.ClassFile.FieldType.array (Jvm.ClassFile.FieldType.object "java/lang/Object"))), Jvm.Cond.code ({ cls := "java/util/Arrays", name := "copyOf", desc := "([Ljava/lang/Object;ILjava/lang/Class;)[Ljava/lang/Object;" } : Jvm.MethodName) jdk_65_method_120_code (4 : Nat) (Option.some (Jvm.ClassFile.FieldType.array (Jvm.ClassFile.FieldType.object "java/lang/Object"))), Jvm.Cond.code ({ cls := "java/lang/Math", name := "min", desc := "(II)I" } : Jvm.MethodName) jdk_29_method_69_code (2 : Nat) (Option.some Jvm.ClassFile.FieldType.int), Jvm.Cond.code ({ cls := "java/util/ArrayList", name := "get", desc := "(I)Ljava/lang/Object;" } : Jvm.MethodName) jdk_38_method_20_code (2 : Nat) (Option.some (Jvm.ClassFile.FieldType.object "java/lang/Object")), Jvm.Cond.code ({ cls := "java/util/Objects", name := "checkIndex", desc := "(II)I" } : Jvm.MethodName) jdk_31_method_17_code (2 : Nat) (Option.some Jvm.ClassFile.FieldType.int), Jvm.Cond.code ({ cls := "jdk/internal/util/Preconditions", name := "checkIndex", desc := "(IILjava/util/function/BiFunction;)I" } : Jvm.MethodName) jdk_41_method_11_code (3 : Nat) (Option.some Jvm.ClassFile.FieldType.int), Jvm.Cond.code ({ cls := "java/util/ArrayList", name := "elementData", desc := "(I)Ljava/lang/Object;" } : Jvm.MethodName) jdk_38_method_18_code (2 : Nat) (Option.some (Jvm.ClassFile.FieldType.object "java/lang/Object")), Jvm.Cond.code ({ cls := "java/lang/Integer", name := "intValue", desc := "()I" } : Jvm.MethodName) jdk_33_method_27_code (1 : Nat) (Option.some Jvm.ClassFile.FieldType.int)]
set_option maxRecDepth 65536 in
theorem codes_eq : words1.filter isCode = codes1 := rfl
theorem w_codes : ∀ c ∈ words1.filter isCode, c.before args0 about1 = true := by
  rw [codes_eq]
  intro c hc
  simp only [codes1, List.mem_cons, List.not_mem_nil, or_false] at hc
  rcases hc with rfl | rfl | rfl | rfl | rfl | rfl | rfl | rfl | rfl | rfl | rfl | rfl | rfl | rfl | rfl | rfl | rfl | rfl | rfl | rfl | rfl | rfl | rfl | rfl | rfl | rfl | rfl | rfl | rfl | rfl | rfl | rfl | rfl | rfl | rfl | rfl | rfl | rfl | rfl | rfl | rfl | rfl | rfl | rfl
  · exact w_c0
  · exact w_c1
  · exact w_c2
  · exact w_c3
  · exact w_c4
  · exact w_c5
  · exact w_c6
  · exact w_c7
  · exact w_c8
  · exact w_c9
  · exact w_c10
  · exact w_c11
  · exact w_c12
  · exact w_c13
  · exact w_c14
  · exact w_c15
  · exact w_c16
  · exact w_c17
  · exact w_c18
  · exact w_c19
  · exact w_c20
  · exact w_c21
  · exact w_c22
  · exact w_c23
  · exact w_c24
  · exact w_c25
  · exact w_c26
  · exact w_c27
  · exact w_c28
  · exact w_c29
  · exact w_c30
  · exact w_c31
  · exact w_c32
  · exact w_c33
  · exact w_c34
  · exact w_c35
  · exact w_c36
  · exact w_c37
  · exact w_c38
  · exact w_c39
  · exact w_c40
  · exact w_c41
  · exact w_c42
  · exact w_c43
set_option maxRecDepth 65536 in
theorem w_t1 : (words1.take 24).all (fun c => isCode c || c.before args0 about1) = true := by decide +kernel
set_option maxRecDepth 65536 in
theorem w_t2 : ((words1.drop 24).take 24).all (fun c => isCode c || c.before args0 about1) = true := by decide +kernel
set_option maxRecDepth 65536 in
theorem w_t3 : (((words1.drop 24).drop 24).take 24).all (fun c => isCode c || c.before args0 about1) = true := by decide +kernel
set_option maxRecDepth 65536 in
theorem w_t4 : ((((words1.drop 24).drop 24).drop 24).take 24).all (fun c => isCode c || c.before args0 about1) = true := by decide +kernel
set_option maxRecDepth 65536 in
theorem w_t5 : (((((words1.drop 24).drop 24).drop 24).drop 24).take 24).all (fun c => isCode c || c.before args0 about1) = true := by decide +kernel
set_option maxRecDepth 65536 in
theorem w_t6 : ((((((words1.drop 24).drop 24).drop 24).drop 24).drop 24).take 24).all (fun c => isCode c || c.before args0 about1) = true := by decide +kernel
set_option maxRecDepth 65536 in
theorem w_t7 : (((((((words1.drop 24).drop 24).drop 24).drop 24).drop 24).drop 24).take 24).all (fun c => isCode c || c.before args0 about1) = true := by decide +kernel
set_option maxRecDepth 65536 in
theorem w_t8 : ((((((((words1.drop 24).drop 24).drop 24).drop 24).drop 24).drop 24).drop 24).take 24).all (fun c => isCode c || c.before args0 about1) = true := by decide +kernel
set_option maxRecDepth 65536 in
theorem w_t9 : (((((((((words1.drop 24).drop 24).drop 24).drop 24).drop 24).drop 24).drop 24).drop 24).take 24).all (fun c => isCode c || c.before args0 about1) = true := by decide +kernel
set_option maxRecDepth 65536 in
theorem w_t10 : ((((((((((words1.drop 24).drop 24).drop 24).drop 24).drop 24).drop 24).drop 24).drop 24).drop 24).take 24).all (fun c => isCode c || c.before args0 about1) = true := by decide +kernel
set_option maxRecDepth 65536 in
theorem w_t11 : (((((((((((words1.drop 24).drop 24).drop 24).drop 24).drop 24).drop 24).drop 24).drop 24).drop 24).drop 24).take 24).all (fun c => isCode c || c.before args0 about1) = true := by decide +kernel
set_option maxRecDepth 65536 in
theorem w_t12 : ((((((((((((words1.drop 24).drop 24).drop 24).drop 24).drop 24).drop 24).drop 24).drop 24).drop 24).drop 24).drop 24).take 24).all (fun c => isCode c || c.before args0 about1) = true := by decide +kernel
set_option maxRecDepth 65536 in
theorem w_t13 : ((((((((((((words1.drop 24).drop 24).drop 24).drop 24).drop 24).drop 24).drop 24).drop 24).drop 24).drop 24).drop 24).drop 24).all (fun c => isCode c || c.before args0 about1) = true := by decide +kernel
theorem w_tables : (allAtoms (Jvm.Cond.code x code maxLocals ret :: tables_1)).before args0 about1 = true := by
  rw [allAtoms_all]
  show words1.all (fun c => c.before args0 about1) = true
  refine all_split ?_ w_codes
  rw [← List.take_append_drop 24 words1, List.all_append, w_t1, ← List.take_append_drop 24 (words1.drop 24), List.all_append, w_t2, ← List.take_append_drop 24 ((words1.drop 24).drop 24), List.all_append, w_t3, ← List.take_append_drop 24 (((words1.drop 24).drop 24).drop 24), List.all_append, w_t4, ← List.take_append_drop 24 ((((words1.drop 24).drop 24).drop 24).drop 24), List.all_append, w_t5, ← List.take_append_drop 24 (((((words1.drop 24).drop 24).drop 24).drop 24).drop 24), List.all_append, w_t6, ← List.take_append_drop 24 ((((((words1.drop 24).drop 24).drop 24).drop 24).drop 24).drop 24), List.all_append, w_t7, ← List.take_append_drop 24 (((((((words1.drop 24).drop 24).drop 24).drop 24).drop 24).drop 24).drop 24), List.all_append, w_t8, ← List.take_append_drop 24 ((((((((words1.drop 24).drop 24).drop 24).drop 24).drop 24).drop 24).drop 24).drop 24), List.all_append, w_t9, ← List.take_append_drop 24 (((((((((words1.drop 24).drop 24).drop 24).drop 24).drop 24).drop 24).drop 24).drop 24).drop 24), List.all_append, w_t10, ← List.take_append_drop 24 ((((((((((words1.drop 24).drop 24).drop 24).drop 24).drop 24).drop 24).drop 24).drop 24).drop 24).drop 24), List.all_append, w_t11, ← List.take_append_drop 24 (((((((((((words1.drop 24).drop 24).drop 24).drop 24).drop 24).drop 24).drop 24).drop 24).drop 24).drop 24).drop 24), List.all_append, w_t12, w_t13]
  rfl
set_option maxRecDepth 65536 in
theorem w_rest : rest_1_c.before args0 about1 = true := by decide +kernel
set_option maxRecDepth 65536 in
theorem w_case : (Jvm.Cond.and given_1 narrow_1).before args0 about1 = true := by decide +kernel
theorem w_applies : (headSpec (Jvm.Cond.code x code maxLocals ret :: tables_1) room_1).applies x e0.platform about1 = true :=
  (Spec.applies_iff w_frames).mpr ⟨w_running, w_runnable, w_alone, w_named, w_hears, w_ripe, w_room, w_tables⟩
set_option maxRecDepth 65536 in
theorem atStart : AtStart classFile x code maxLocals ret World_1 tables_1 room_1 Calls_1 rest_1 Pre_1 launch0 p0 e0 about1 theMethod args0 below0 :=
  ⟨lists_1, trivial, launch0.admits_env _ _ _, launch0.least_env, fairChoices_fair.cas, fairChoices_fair.clock, w_frames, w_args, w_heap, w_applies, ⟨⟨35, k35, 2, by decide +kernel, rfl, rfl, _, rfl, rfl⟩, trivial⟩, w_rest, w_case⟩
end start1
theorem witness_1 : WitnessClaimed_1 := ⟨start1.p0, start1.e0, start1.about1, start1.theMethod, start1.args0, start1.below0, start1.atStart⟩
end Jvm.Pilot.@@N@@
