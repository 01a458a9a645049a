import JvmDerived
import JvmDerived.Pilot.@@N@@Statement
import JvmDerived.Pilot.@@N@@Code
set_option linter.unusedVariables false
set_option linter.unusedSimpArgs false

/-! An interface call whose reference lands in another class's method (Object.toString by way of Collection), without the word that this method is public: the link word's own access test serves -/
namespace Jvm.OwnKit
open Sem ClassFile Op Lib Jvm.Stand Jvm.Free Jvm.LawKit Jvm.RoadKit
theorem own_linkFF {args : Array Value} {s : State} {cls : String} {x : MethodName} {index d c : Nat} {ck ok : Class} {meth : Method} {mf : MethodId} (hd : s.vm.findClass cls = some d) (hc : s.vm.findClass x.cls = some c) (hck : s.vm.classes[c]? = some ck) (hvi : ck.isInterface = true) (hnone : ck.findMethod x.name x.desc = none)
    (hf : s.methodFound? x.cls x.name x.desc = some mf) (hok : s.vm.classes[mf.cls]? = some ok) (hm : ok.methods[mf.idx]? = some meth) (hx : x.cls ≠ "java/lang/invoke/MethodHandle" ∧ x.cls ≠ "java/lang/invoke/VarHandle") (hcl0 : x.name ≠ "clone")
    (h : (Cond.methodLink cls index x).before args s = true) (pl : Platform) (hpl : pl.magicAccessors = ({} : Platform).magicAccessors) : ∃ ci, s.vm.MethodLinksFF pl d index ci c mf ∧ s.rightAt d index (.method mf) = true := by
  obtain ⟨k0, hk0, hname⟩ := Vm.findClass_spec hc
  cases hck.symm.trans hk0
  have hpoly : ∀ y, signaturePolymorphic ck y = false := fun y => by simp [signaturePolymorphic, hname, hx.1, hx.2]
  have hmeth : s.vm.method? mf = some meth := by simp [Vm.method?, hok, hm]
  simp only [Cond.before, Cond.holds, Cond.value, hd, hc, hf] at h
  obtain ⟨⟨ci, via⟩, hme⟩ : ∃ me, s.memberEntry? cls index = some me := by
    cases q : s.memberEntry? cls index with
    | none => simp [q] at h
    | some me => exact ⟨me, rfl⟩
  obtain ⟨dk, hdk, -⟩ := Vm.findClass_spec hd
  obtain ⟨lk, hlk⟩ : ∃ lk, s.classLinks cls ci x.cls = some lk := by
    cases q : s.classLinks cls ci x.cls with
    | none => simp [hme, q] at h
    | some lk => exact ⟨lk, rfl⟩
  simp only [hme, hlk, hdk, hck, hok, hmeth, Option.bind_eq_bind, Option.bind_some, Option.pure_def, beq_iff_eq, bne_iff_ne, ne_eq, Option.some.injEq, Bool.and_eq_true, Option.isNone_iff_eq_none] at h
  obtain ⟨⟨⟨⟨⟨⟨⟨rfl, hnm⟩, hopen⟩, hvia⟩, -⟩, -⟩, hml⟩, hacc⟩ := h
  rw [hvi] at hvia
  subst hvia
  obtain ⟨cr, hcr, hlinks⟩ := State.classLinks_spec hd hlk pl hpl
  cases hc.symm.trans hcr
  obtain ⟨cp, hcp, hnames⟩ := State.names_spec hnm
  obtain ⟨dk', cf, hdk', hcf, rfl⟩ := State.poolOf?_spec hd hcp
  cases hdk.symm.trans hdk'
  obtain ⟨ci', nt, hent, hnt, -⟩ := namesOf?_method hnames
  obtain ⟨rfl, hent2⟩ : ci' = ci ∧ cf.constantPool[index]? = some (.interfaceMethodref ci nt) := by
    rcases hent with q | q <;> simp only [State.memberEntry?, hcp, Option.bind_eq_bind, Option.bind_some, q, Option.some.injEq, Prod.mk.injEq] at hme
    · exact absurd hme.2 (by simp)
    · exact ⟨hme.1, hme.1 ▸ q⟩
  obtain ⟨d2, cf2, nm2, _, g1, g2, g3, g4, -⟩ := hlinks.here
  cases hdk.symm.trans g1
  cases hcf.symm.trans g2
  have hne : ci' ≠ index := fun he => by subst he; simp [ConstantPool.className?, hent2] at g4
  have hP : s.vm.Plain meth.accessFlags mf.cls ok c d dk := by
    rcases (Bool.or_eq_true _ _).mp hacc with q | q
    · simpa [Vm.Plain, plainAccess, or_assoc, and_assoc] using q
    · simp [hcl0] at q
  refine ⟨ci', ⟨dk, cf, nt, x.name, x.desc, ck, ok, meth, hdk, hcf, hent2, hnt, hlinks, hne, hck, hvi, hpoly, hnone, State.faceFind_of_found hc hck hvi hpoly hnone hf, hok, hm, g3.trans hml.symm, hP, State.openOr_spec hd hdk hopen⟩, ?_⟩
  simp [State.rightAt, hdk, hcf, hnames, hf]
section IfUp
variable {p : Program} {l : Launch} {e : Env} {R : Room} {s : State} {m : MethodId} {args : Array Value} {below : List Frame} {meth : Method} {c : Code} {T : State} {locs : List Loc} {cells slots : Nat}
theorem own_ifStep (X : Stand p l e R s m args below meth c T locs cells slots) (hexec : p.tables.exec = Jvm.exec) {own C J : String} {index count : Nat} {xi y : MethodName} (hown : s.vm.findClass own = some m.cls) (hlink : (Cond.methodLink own index xi).before args s = true) (hdecl : (Cond.declares ⟨J, xi.name, xi.desc⟩).before args s = true)
    (hface : (Cond.interfaceMethod xi.cls J xi.name xi.desc).before args s = true) (hxo : xi.cls ≠ J) (hsel : (Cond.selects C xi y).before args s = true) (hinst : (Cond.instanceMethod y).before args s = true) (hpub : (Cond.publicMethod y).before args s = true) (hunh : (Cond.unhidden C xi.name xi.desc).before args s = true) (hcast : (Cond.castable C xi.cls).before args s = true)
    (hx : xi.cls ≠ "java/lang/invoke/MethodHandle" ∧ xi.cls ≠ "java/lang/invoke/VarHandle") (hcl0 : xi.name ≠ "clone") {b : Addr} {cB : ClassId} {kB : Class} (hcB : s.vm.findClass C = some cB) (hkB : s.vm.classes[cB]? = some kB) (hrecv : IsOf cB T b)
    {g : JFrame} (hg : g.method = m) {argsL rest : List Value} (hlen : ∀ sig, parseMethodDescriptor xi.desc = some sig → argsL.length = sig.parameters.length) (hstack : g.stack = argsL.reverse ++ .ref b :: rest) (hdg : decode c.code g.pc = .ok (.invokeinterface index count, 5)) :
    ∃ (vm' : Vm) (mk : MethodId), s.methodNamed? y = some mk ∧ Stand p l e R s m args below meth c (T.setVm vm') locs cells slots ∧ ∀ target, (∀ acts, Steps p.tables e below (doInvoke e ((T.setVm vm').setTop { g with stack := rest }) acts mk (.ref b :: argsL).toArray).1 target) → Steps p.tables e below (T.setTop g) target := by
  obtain ⟨cell, hcell, hclsB, hstat⟩ := hrecv
  obtain ⟨r0, r, hn, hrm, hstR, hsigR⟩ := Cond.declares_spec hdecl
  obtain ⟨cI, kI, r1, hcI, hkI, hiI, hfound, hn1⟩ := Cond.interfaceMethod_spec hface
  cases hn.symm.trans hn1
  obtain ⟨hnmR, hdsR⟩ := name_of_methodNamed hn hrm
  obtain ⟨mk, met', hnamed, hmet, -, habs⟩ := Cond.instanceMethod_spec hinst
  obtain ⟨c2, r2, m2, q1, q2, q3, q4, -⟩ := Cond.selects_spec hsel
  cases hcB.symm.trans q1
  cases hfound.symm.trans q2
  cases hnamed.symm.trans q3
  obtain ⟨c3, t3, w1, w2, w3⟩ := Cond.castable_spec hcast
  cases hcB.symm.trans w1
  cases hcI.symm.trans w2
  obtain ⟨ok, hok, hokn⟩ := className_of_methodNamed hn
  have hmO : ok.methods[r0.idx]? = some r := by simpa [Vm.method?, hok] using hrm
  obtain ⟨kI', hkI', hnI⟩ := Vm.findClass_spec hcI
  cases hkI.symm.trans hkI'
  have hpolyI : ∀ z, signaturePolymorphic kI z = false := fun z => by simp [signaturePolymorphic, hnI, hx.1, hx.2]
  have hnone : kI.findMethod xi.name xi.desc = none := by
    cases hj : kI.findMethod xi.name xi.desc with
    | none => rfl
    | some j =>
      obtain ⟨hlt, -, -⟩ := Array.findIdx?_eq_some_iff_getElem.mp hj
      have h2 := State.methodFound?_declared hcI hkI hpolyI hj (by simp [hlt])
      have e1 : r0 = ⟨cI, j⟩ := Option.some.inj (hfound.symm.trans h2)
      rw [e1] at hok
      cases hkI.symm.trans hok
      exact absurd (hnI.symm.trans hokn) hxo
  obtain ⟨ci, hl, hright⟩ := own_linkFF hown hcI hkI hiI hnone hfound hok hmO hx hcl0 hlink e.platform (by rw [X.admits.platform])
  have hE : s.MethodEntryUp e T.vm m.cls index cI r0 ci := State.methodEntryFF X.warmed hl hright
  obtain ⟨dk, cf, nt, _, _, ck, _, _, hd, hcf, hcp, -, -, -, hck, hvia, -⟩ := hl.here
  cases hkI.symm.trans hck
  have al := hE.warmed.alike
  obtain ⟨dk2, hdk2, hres⟩ := hE.classReady
  obtain ⟨dk3, hdk3, hed⟩ := al.2.2 _ _ hd
  cases hdk2.symm.trans hdk3
  obtain ⟨ck2, hck2, hec⟩ := al.2.2 _ _ hck
  obtain ⟨kB2, hkB2, -⟩ := al.2.2 _ _ hkB
  have hway : ((cell.cls :: s.vm.superclasses cell.cls).any fun k => (declaredIn s.vm r.name r.desc k).any fun (_, z) => z.isPrivate || z.isStatic) = false := by
    rw [hnmR, hdsR, hclsB]; exact Cond.unhidden_spec hcB hunh
  refine ⟨T.vm.calledUp m.cls ci index cI r0, mk, hnamed, X.noted hE.warmed, fun target hrest => ?_⟩
  subst hg
  jvm_step X.here [hexec, hdg, invokeinterface.wp_coldFace (e := e) (s := T) (s₀ := s) (f := g) (count := count) X.here.top X.warmed hE hd hcf (Or.inr hcp) hck hvia,
    invokeinterface.wp_ready (e := e) (s := T.setVm (T.vm.calledUp g.method.cls ci index cI r0)) (f := g) (count := count) (r := r) (meth := met') (m := mk) (args := argsL) (rest := rest) (cell := cell) (kcell := kB2) (ck := dk2) (nk := ck2) (cf := cf) (ci := ci) (nt := nt) (named := cI)
      X.here.top hE.ready ((al.method? r0).trans hrm) hstR (hlen _ hsigR) hstack hcell (fun z q => by rw [q] at hstat; cases hstat) (by rw [hclsB]; exact hkB2) hdk2 (by rw [hed]; exact hcf) hcp hres hck2 (by rw [hec]; exact hvia)
      (by rw [State.vm_setVm, al.assignable, hclsB]; exact w3) (by rw [State.vm_setVm, al.selectMethod, Launch.admits_selectMethod X.admits, hclsB]; exact q4) ((al.method? mk).trans hmet)
      (Or.inr (Or.inr (by simp only [State.vm_setVm, al.superclasses, al.declaredIn]; exact hway))) (Or.inl (Cond.publicMethod_spec hnamed hmet hpub)) habs]
  exact hrest
theorem own_ifUpS (X : Stand p l e R s m args below meth c T locs cells slots) (hexec : p.tables.exec = Jvm.exec) {own C J : String} {index count : Nat} {xi y : MethodName} (hown : s.vm.findClass own = some m.cls) (hlink : (Cond.methodLink own index xi).before args s = true) (hdecl : (Cond.declares ⟨J, xi.name, xi.desc⟩).before args s = true)
    (hface : (Cond.interfaceMethod xi.cls J xi.name xi.desc).before args s = true) (hxo : xi.cls ≠ J) (hsel : (Cond.selects C xi y).before args s = true) (hinst : (Cond.instanceMethod y).before args s = true) (hpub : (Cond.publicMethod y).before args s = true) (hunh : (Cond.unhidden C xi.name xi.desc).before args s = true) (hcast : (Cond.castable C xi.cls).before args s = true)
    (hx : xi.cls ≠ "java/lang/invoke/MethodHandle" ∧ xi.cls ≠ "java/lang/invoke/VarHandle") (hcl0 : xi.name ≠ "clone") {W : Nat} {Pre : Pt → Array Value → Prop} {Post : Pt → Array Value → Option Value → Pt → Prop} (hK : BackS l R p e below s args y 5 W Pre Post)
    {b : Addr} {cB : ClassId} {kB : Class} (hcB : s.vm.findClass C = some cB) (hkB : s.vm.classes[cB]? = some kB) (hrecv : IsOf cB T b) {g : JFrame} (hg : g.method = m) (hsize : g.locals.size = c.maxLocals) {argsL rest : List Value} (hlen : ∀ sig, parseMethodDescriptor xi.desc = some sig → argsL.length = sig.parameters.length) (hstack : g.stack = argsL.reverse ++ .ref b :: rest) (hW : 2 * g.monitorRoom + (rest.map fun v => v.category).sum ≤ W)
    (hdg : decode c.code g.pc = .ok (.invokeinterface index count, 5)) (hpre : ∀ vm₁, s.WarmedH vm₁ → Pre ⟨T.setVm vm₁, locs, cells, slots⟩ (.ref b :: argsL).toArray) :
    ∃ (v : Option Value) (vm₁ : Vm) (B : Pt), s.WarmedH vm₁ ∧ Stand p l e R (s.setVm B.U.vm) m args below meth c B.U B.locs B.cells B.slots ∧ s.Since B.U.vm B.U.heap.size ∧ T.heap.size ≤ B.U.heap.size ∧ Post ⟨T.setVm vm₁, locs, cells, slots⟩ (.ref b :: argsL).toArray v B ∧ Steps p.tables e below (T.setTop g) (B.U.setTop { g with pc := g.pc + 5, stack := v.toList ++ rest }) := by
  obtain ⟨vm₁, mk, hnamed, X₁, st⟩ := own_ifStep X hexec hown hlink hdecl hface hxo hsel hinst hpub hunh hcast hx hcl0 hcB hkB hrecv hg hlen hstack hdg
  obtain ⟨v, B, X', hS, hgr, hpost, hs⟩ := hK m meth c ⟨T.setVm vm₁, locs, cells, slots⟩ { g with stack := rest } (.invokeinterface index count) mk (.ref b :: argsL).toArray X₁ hg hsize hdg hW (X₁.named hnamed) (hpre vm₁ X₁.warmed)
  exact ⟨v, vm₁, B, X₁.warmed, X', hS, hgr, hpost, (st _ fun acts => by rw [doInvoke_state]; exact Steps.refl _).trans hs⟩
end IfUp
end Jvm.OwnKit
namespace Jvm.OwnKit
open Sem ClassFile Op Lib Jvm.Stand Jvm.Free Jvm.LawKit Jvm.RoadKit
/-! ## What is owed from a state on, and where a walk stands: one bundle a walk -/
def Go (tb : Tables) (e : Env) (below : List Frame) (P : Outcome → State → Prop) (A : State) : Prop := ∃ s₂ o, Steps tb e below A s₂ ∧ s₂.status = .running ∧ Ended s₂ below o ∧ P o s₂
theorem Go.go {tb : Tables} {e : Env} {below : List Frame} {P : Outcome → State → Prop} {A B : State} (st : ∀ t, Steps tb e below B t → Steps tb e below A t) (k : Go tb e below P B) : Go tb e below P A := by
  obtain ⟨s2, o, h, r⟩ := k
  exact ⟨s2, o, st _ h, r⟩
theorem Go.cast {tb : Tables} {e : Env} {below : List Frame} {P : Outcome → State → Prop} {T : State} {g g' : JFrame} (q : g = g') (k : Go tb e below P (T.setTop g')) : Go tb e below P (T.setTop g) := q ▸ k
def QQ (h0 : Heap) (n0 : Nat) (ws : List Addr) (Po : Option Value → Heap → Vm → Prop) (v : Option Value) (h : Heap) (vm : Vm) (L : List Loc) : Prop := Fr n0 L ∧ Keep h0 h ws ∧ Po v h vm
def PO (s : State) (R : Room) (h0 : Heap) (n0 : Nat) (ws : List Addr) (Z : State) (EL : List (String × Nat)) (Po : Option Value → Heap → Vm → Prop) (o : Outcome) (t : State) : Prop := ∃ v L, o = .returned v ∧ QQ h0 n0 ws Po v t.heap t.vm L ∧ CHr Z EL s.vm s.heap t.vm t.heap ∧ ReturnedEndW s o t L R.cells R.slots
def KnP (kn : Bool) (vm : Vm) (below : List Frame) : Prop := kn = true → vm.MethodsKnown ∧ vm.FramesKnown below
theorem KnP.alike {kn : Bool} {vm vm' : Vm} {below : List Frame} (h : KnP kn vm below) (ha : vm.Alike vm') : KnP kn vm' below := fun q => ⟨Vm.MethodsKnown.alikeC ha (h q).1, Vm.FramesKnown.alikeC ha (h q).2⟩
def Met (l : Launch) (y : MethodName) (bytes : ByteArray) (maxL : Nat) (ret : Option FieldType) (wl : List Cond) (rm : Room) (Z : State) (as' : Array Value) (h0 : Heap) (n0 : Nat) (ws : List Addr) (EL : List (String × Nat)) (kn : Bool) (sf : List Addr) (Po : Option Value → Heap → Vm → Prop) : Prop :=
  MetFree l y (head1 (Cond.code y bytes maxL ret :: wl) rm) (fun a U => a = as' ∧ Z.Warmed39 U.vm ∧ U.heap = h0 ∧ CHv Z EL U.vm h0 ∧ ∀ x ∈ sf, Safe Z EL U.vm h0 x) (fun _ _ bl s _ => KnP kn s.vm bl) (fun _ U o U' => ∃ v L, o = .returned v ∧ QQ h0 n0 ws Po v U'.heap U'.vm L ∧ CHr Z EL U.vm U.heap U'.vm U'.heap ∧ ReturnedEndW U o U' L rm.cells rm.slots)
def Here (p : Program) (l : Launch) (e : Env) (R : Room) (s : State) (m : MethodId) (args : Array Value) (below : List Frame) (meth : Method) (c : Code) (Z : State) (bytes : ByteArray) (maxL : Nat) (ret : Option FieldType) (own nm : String) (h0 : Heap) (n0 : Nat) (ws : List Addr) (EL : List (String × Nat)) (kn : Bool)
    (T : State) (h : Heap) (vm0 : Vm) (cells slots : Nat) : Prop :=
  ∃ k0 locs, Stand p l e R (s.setVm vm0) m args below meth c T locs cells slots ∧ Fr n0 locs ∧ T.heap = h ∧ Old Z n0 h ∧ Keep h0 h ws ∧ p.tables.exec = Jvm.exec ∧ c.code = bytes ∧ c.maxLocals = maxL ∧ meth.sig.returnType = ret ∧ meth.locks = false ∧ vm0.findClass own = some m.cls ∧ meth.name = nm ∧ Z.Warmed39 vm0 ∧ s.Since vm0 k0 ∧ k0 ≤ h.size ∧ CHr Z EL s.vm h0 vm0 h ∧ (∃ a1, EW Z a1 EL) ∧ KnP kn vm0 below ∧ s.heap = h0
section Own
variable {p : Program} {l : Launch} {e : Env} {R : Room} {s : State} {m : MethodId} {args : Array Value} {below : List Frame} {meth : Method} {c : Code} {T : State} {locs : List Loc} {cells slots : Nat} {Z : State} {a0 : Array Value} {h : Heap}
theorem own_ldcM (X : Stand p l e R s m args below meth c T locs cells slots) (hx : p.tables.exec = Jvm.exec) (hZ : Z.Warmed39 s.vm) {own C : String} {index : Nat} (hown : s.vm.findClass own = some m.cls) (w : (Cond.classLink own index C).before a0 Z = true) (eT : T.heap = h) {mr : Addr} (M : Mir Z C mr)
    {g : JFrame} (hg : g.method = m) (hd : decode c.code g.pc = .ok (.ldc index, 2)) : ∃ T', Stand p l e R s m args below meth c T' locs cells slots ∧ T'.heap = h ∧ ∀ target, Steps p.tables e below (T'.setTop { g with pc := g.pc + 2, stack := .ref mr :: g.stack }) target → Steps p.tables e below (T.setTop g) target := by
  obtain ⟨cc, kc, m1, m2, m3, -⟩ := M
  obtain ⟨k', q, ek⟩ := hZ.alike.2.2 _ _ m2
  have f1 : s.vm.findClass C = some cc := by rw [hZ.alike.findClass]; exact m1
  have f3 : k'.mirror = some mr := by rw [ek]; exact m3
  obtain ⟨vm', X', st⟩ := X.ldcMirror hx hown (mvT hZ w) (a := mr) (by simp [Term.eval, f1, q, f3]) hg hd
  exact ⟨_, X', eT, st⟩
theorem own_gcV (X : Stand p l e R s m args below meth c T locs cells slots) (hx : p.tables.exec = Jvm.exec) (hZ : Z.Warmed39 s.vm) {own C : String} {index : Nat} (hown : s.vm.findClass own = some m.cls)
    (w1 : (Cond.methodLink own index Jvm.Stand.gcN).before a0 Z = true) (w2 : (Cond.declares Jvm.Stand.gcN).before a0 Z = true) (nf : ∀ s' : State, Z.Warmed39 s'.vm → NotFace s' Jvm.Stand.gcN) (w4 : (Cond.selects C Jvm.Stand.gcN Jvm.Stand.gcN).before a0 Z = true)
    (w5 : (Cond.instanceMethod Jvm.Stand.gcN).before a0 Z = true) (w6 : (Cond.native Jvm.Stand.gcN).before a0 Z = true) (eT : T.heap = h) {a : Addr} (E : Exa Z h a C) {mr : Addr} (M : Mir Z C mr)
    {g : JFrame} (hg : g.method = m) (hsize : g.locals.size = c.maxLocals) {rest : List Value} (hs : g.stack = .ref a :: rest) (hd : decode c.code g.pc = .ok (.invokevirtual index, 3)) (hf : 1 ≤ R.frames) {W : Nat} (hW : 2 * g.monitorRoom + (rest.map fun v => v.category).sum ≤ W) (hl : W + (nativeFrameWords "java/lang/Object" "getClass" 1 + 11) ≤ R.locals) :
    ∃ T', Stand p l e R s m args below meth c T' locs cells slots ∧ T'.heap = h ∧ ∀ target, Steps p.tables e below (T'.setTop { g with pc := g.pc + 3, stack := .ref mr :: rest }) target → Steps p.tables e below (T.setTop g) target := by
  obtain ⟨cB, kB, i1, i2, i3⟩ := isOf hZ eT E
  obtain ⟨cc, kc, m1, m2, m3, -⟩ := M
  rw [hZ.alike.findClass] at i1
  cases i1.symm.trans m1
  obtain ⟨k', q, ek⟩ := hZ.alike.2.2 _ _ m2
  obtain ⟨vm', X', st⟩ := X.getClassOf hx hown (mvT hZ w1) (mvT hZ w2) (nf _ hZ) (mvT hZ w4) (mvT hZ w5) (mvT hZ w6) (by rw [hZ.alike.findClass]; exact m1) i3 q (by rw [ek]; exact m3) hg hsize hs hd hf (by omega)
  exact ⟨_, X', eT, st⟩
theorem own_gcI (X : Stand p l e R s m args below meth c T locs cells slots) (hx : p.tables.exec = Jvm.exec) (hZ : Z.Warmed39 s.vm) {own C : String} {xi : MethodName} {index count : Nat} (hown : s.vm.findClass own = some m.cls)
    (w1 : (Cond.methodLink own index xi).before a0 Z = true) (w2 : (Cond.declares Jvm.Stand.gcN).before a0 Z = true) (w3 : (Cond.interfaceMethod xi.cls "java/lang/Object" xi.name xi.desc).before a0 Z = true) (w4 : (Cond.selects C xi Jvm.Stand.gcN).before a0 Z = true)
    (w5 : (Cond.instanceMethod Jvm.Stand.gcN).before a0 Z = true) (w6 : (Cond.publicMethod Jvm.Stand.gcN).before a0 Z = true) (w7 : (Cond.unhidden C xi.name xi.desc).before a0 Z = true) (w8 : (Cond.castable C xi.cls).before a0 Z = true) (w9 : (Cond.native Jvm.Stand.gcN).before a0 Z = true)
    (hxi : xi.cls ≠ "java/lang/invoke/MethodHandle" ∧ xi.cls ≠ "java/lang/invoke/VarHandle") (hxo : xi.cls ≠ "java/lang/Object") (hn1 : xi.name = "getClass") (hn2 : xi.desc = "()Ljava/lang/Class;") (eT : T.heap = h) {a : Addr} (E : Exa Z h a C) {mr : Addr} (M : Mir Z C mr)
    {g : JFrame} (hg : g.method = m) (hsize : g.locals.size = c.maxLocals) {rest : List Value} (hs : g.stack = .ref a :: rest) (hd : decode c.code g.pc = .ok (.invokeinterface index count, 5)) (hf : 1 ≤ R.frames) {W : Nat} (hW : 2 * g.monitorRoom + (rest.map fun v => v.category).sum ≤ W) (hl : W + (nativeFrameWords "java/lang/Object" "getClass" 1 + 11) ≤ R.locals) :
    ∃ T', Stand p l e R s m args below meth c T' locs cells slots ∧ T'.heap = h ∧ ∀ target, Steps p.tables e below (T'.setTop { g with pc := g.pc + 5, stack := .ref mr :: rest }) target → Steps p.tables e below (T.setTop g) target := by
  obtain ⟨cB, kB, i1, i2, i3⟩ := isOf hZ eT E
  obtain ⟨cc, kc, m1, m2, m3, -⟩ := M
  rw [hZ.alike.findClass] at i1
  cases i1.symm.trans m1
  obtain ⟨k', q, ek⟩ := hZ.alike.2.2 _ _ m2
  obtain ⟨vm', X', st⟩ := X.getClassOfI hx hown (mvT hZ w1) (mvT hZ w2) (Jvm.Free.ULB.iface_rides hZ.alike w3) (mvT hZ w4) (mvT hZ w5) (mvT hZ w6) (mvT hZ w7) (mvT hZ w8) (mvT hZ w9) hxi hxo hn1 hn2 (by rw [hZ.alike.findClass]; exact m1) q i3 (by rw [ek]; exact m3) hg hsize hs hd hf (by omega)
  exact ⟨_, X', eT, st⟩
theorem own_nfZ {C : String} {x y z : MethodName} (w : (Cond.selects C x z).before a0 Z = true) (hc : z.cls = y.cls) : ∀ s' : State, Z.Warmed39 s'.vm → NotFace s' y := fun s' hz r0 hn => by
  have w' : (Cond.selects C x z).before #[] s' = true := mvT hz w
  obtain ⟨c2, r2, m2, q1, q2, q3, q4, mk, k1, k2⟩ := Cond.selects_spec w'
  have e1 := findClass_of_methodNamed q3
  have e2 := findClass_of_methodNamed hn
  rw [hc] at e1
  have e3 : m2.cls = r0.cls := Option.some.inj (e1.symm.trans e2)
  exact ⟨mk, e3 ▸ k1, k2⟩
theorem own_decl {y : MethodName} {bytes : ByteArray} {maxL : Nat} {ret : Option FieldType} (w : (Cond.instanceMethod y).before a0 Z = true) (wc : (Cond.code y bytes maxL ret).before a0 Z = true) : (Cond.declares y).before a0 Z = true := by
  obtain ⟨m, meth, hn, hm, hst, -⟩ := Cond.instanceMethod_spec w
  obtain ⟨m2, cM, q1, -, -, -, -, -, -, hsig⟩ := Cond.code_spec hn wc
  cases hm.symm.trans q1
  simp [Cond.before, Cond.holds, Cond.value, hn, hm, hst, hsig]
theorem own_same {y : MethodName} (w : (Cond.instanceMethod y).before a0 Z = true) (nf : ∀ s' : State, Z.Warmed39 s'.vm → NotFace s' y) (hy : y.cls ≠ "java/lang/invoke/MethodHandle" ∧ y.cls ≠ "java/lang/invoke/VarHandle") : (Cond.sameMethod y.cls y.cls y.name y.desc).before a0 Z = true := by
  obtain ⟨m, meth, hn, hm, -⟩ := Cond.instanceMethod_spec w
  have f := State.methodFound?_of_named hn hy
  obtain ⟨kr, k1, k2⟩ := nf Z (State.Warmed39.refl Z) m hn
  have c := findClass_of_methodNamed hn
  have hn' : Z.methodNamed? ⟨y.cls, y.name, y.desc⟩ = some m := hn
  simp [Cond.before, Cond.holds, Cond.value, c, f, hn', k1, k2]
end Own
section Kit
variable {p : Program} {l : Launch} {e : Env} {R : Room} {s : State} {m : MethodId} {args : Array Value} {below : List Frame} {meth : Method} {c : Code} {Z : State} {bytes : ByteArray} {maxL : Nat} {ret : Option FieldType} {own nm : String} {h0 : Heap} {n0 : Nat} {ws : List Addr} {T : State} {h : Heap} {cells slots : Nat} {P : Outcome → State → Prop} {pc : Nat} (pc' : Nat) {Ls : Array Slot} {st rest : List Value} {a0 : Array Value} {EL : List (String × Nat)} {kn : Bool} {vm0 : Vm} {sf : List Addr}
theorem met_intro {y : MethodName} {wl : List Cond} {as' : Array Value} {Po : Option Value → Heap → Vm → Prop} (hpn : plainFor y = true) (hc0 : y.cls = own) (hn0 : y.name = nm) (O : Old Z n0 h0) (hew : EW Z a0 EL)
    (body : ∀ p e s m below meth c s₁, Here p l e R s m as' below meth c Z bytes maxL ret own nm h0 n0 ws EL kn s₁ h0 s.vm 0 0 → (∀ x ∈ sf, Safe Z EL s.vm h0 x) → Go p.tables e below (PO s R h0 n0 ws Z EL Po) (s₁.setTop (entryFrame m as' maxL))) : Met l y bytes maxL ret wl R Z as' h0 n0 ws EL kn sf Po := by
  subst hc0 hn0
  refine MetFree.of_bodySF hpn hisR ?_
  intro p e s m args below meth c s₁ Bd hml0 hP hK
  obtain ⟨rfl, hZ, hh, hCH, hsf⟩ := hP
  have e0 : s₁.heap = h0 := by rw [← hh, Bd.state]; rfl
  exact body p e s m below meth c s₁ ⟨h0.size, [], Stand.of_body Bd, Fr.nil n0, e0, O, Keep.refl h0 ws, Bd.exec, Bd.bytes, hml0, Bd.returns, BodyLoose.notSynchronized Bd, findClass_of_methodNamed Bd.named, (name_of_methodNamed Bd.named Bd.method).1, hZ, (State.WarmedH.refl s).since _, Nat.le_refl _, CHr.refl hCH, ⟨a0, hew⟩, hK, hh⟩ hsf
theorem Here.old (X : Here p l e R s m args below meth c Z bytes maxL ret own nm h0 n0 ws EL kn T h vm0 cells slots) : Old Z n0 h := by obtain ⟨_, _, _, _, _, q, _⟩ := X; exact q
theorem Here.keep (X : Here p l e R s m args below meth c Z bytes maxL ret own nm h0 n0 ws EL kn T h vm0 cells slots) : Keep h0 h ws := by obtain ⟨_, _, _, _, _, _, q, _⟩ := X; exact q
theorem Here.zv (X : Here p l e R s m args below meth c Z bytes maxL ret own nm h0 n0 ws EL kn T h vm0 cells slots) : Z.Warmed39 vm0 := by obtain ⟨_, _, _, _, _, _, _, _, _, _, _, _, _, _, q, _⟩ := X; exact q
theorem Here.al (X : Here p l e R s m args below meth c Z bytes maxL ret own nm h0 n0 ws EL kn T h vm0 cells slots) : Z.vm.Alike vm0 := X.zv.alike
theorem Here.n0le (X : Here p l e R s m args below meth c Z bytes maxL ret own nm h0 n0 ws EL kn T h vm0 cells slots) : n0 ≤ h.size := by have q := X.old; rw [← q.1]; exact q.2.1
theorem oI {k : Fin 4} {v : Int32} (X : Here p l e R s m args below meth c Z bytes maxL ret own nm h0 n0 ws EL kn T h vm0 cells slots) (hd : decode bytes pc = .ok (.iload_n k, 1)) (hp : pc + 1 = pc') (hl : Ls[k.val]? = some (.val (.int v)))
    (k : Go p.tables e below P (T.setTop (mkF m pc' Ls (.int v :: st)))) : Go p.tables e below P (T.setTop (mkF m pc Ls st)) := by
  obtain ⟨k0, locs, Y, N, eT, O, K, hx, hby, hml, hret, hlk, hown, hnm, hZ, hS, hk, hC, hEW, hKn, hsh⟩ := X
  subst hp
  exact Go.go (fun t q => XS.iloadN Y.here hx rfl (hb hby hd) hl q) k
theorem oi {k : Nat} {v : Int32} (X : Here p l e R s m args below meth c Z bytes maxL ret own nm h0 n0 ws EL kn T h vm0 cells slots) (hd : decode bytes pc = .ok (.iload k, 2)) (hp : pc + 2 = pc') (hl : Ls[k]? = some (.val (.int v)))
    (k : Go p.tables e below P (T.setTop (mkF m pc' Ls (.int v :: st)))) : Go p.tables e below P (T.setTop (mkF m pc Ls st)) := by
  obtain ⟨k0, locs, Y, N, eT, O, K, hx, hby, hml, hret, hlk, hown, hnm, hZ, hS, hk, hC, hEW, hKn, hsh⟩ := X
  subst hp
  exact Go.go (fun t q => XS.iload Y.here hx rfl (hb hby hd) hl q) k
theorem o_aloadN {k : Fin 4} {v : Value} (X : Here p l e R s m args below meth c Z bytes maxL ret own nm h0 n0 ws EL kn T h vm0 cells slots) (hd : decode bytes pc = .ok (.aload_n k, 1)) (hp : pc + 1 = pc') (hl : Ls[k.val]? = some (.val v)) (hv : v.isRef = true)
    (k : Go p.tables e below P (T.setTop (mkF m pc' Ls (v :: st)))) : Go p.tables e below P (T.setTop (mkF m pc Ls st)) := by
  obtain ⟨k0, locs, Y, N, eT, O, K, hx, hby, hml, hret, hlk, hown, hnm, hZ, hS, hk, hC, hEW, hKn, hsh⟩ := X
  subst hp
  exact Go.go (fun t q => XS.aloadN Y.here hx rfl (hb hby hd) hl hv q) k
theorem o_aload {k : Nat} {v : Value} (X : Here p l e R s m args below meth c Z bytes maxL ret own nm h0 n0 ws EL kn T h vm0 cells slots) (hd : decode bytes pc = .ok (.aload k, 2)) (hp : pc + 2 = pc') (hl : Ls[k]? = some (.val v)) (hv : v.isRef = true)
    (k : Go p.tables e below P (T.setTop (mkF m pc' Ls (v :: st)))) : Go p.tables e below P (T.setTop (mkF m pc Ls st)) := by
  obtain ⟨k0, locs, Y, N, eT, O, K, hx, hby, hml, hret, hlk, hown, hnm, hZ, hS, hk, hC, hEW, hKn, hsh⟩ := X
  subst hp
  exact Go.go (fun t q => XS.aload Y.here hx rfl (hb hby hd) hl hv q) k
theorem oT {k : Fin 4} {x : Int32} {l' : Array Slot} (X : Here p l e R s m args below meth c Z bytes maxL ret own nm h0 n0 ws EL kn T h vm0 cells slots) (hd : decode bytes pc = .ok (.istore_n k, 1)) (hp : pc + 1 = pc') (hl : storeLocals Ls k.val (.int x) = some l')
    (k : Go p.tables e below P (T.setTop (mkF m pc' l' st))) : Go p.tables e below P (T.setTop (mkF m pc Ls (.int x :: st))) := by
  obtain ⟨k0, locs, Y, N, eT, O, K, hx, hby, hml, hret, hlk, hown, hnm, hZ, hS, hk, hC, hEW, hKn, hsh⟩ := X
  subst hp
  exact Go.go (fun t q => XS.istoreN Y.here hx rfl (hb hby hd) rfl hl q) k
theorem oS {k : Nat} {x : Int32} {l' : Array Slot} (X : Here p l e R s m args below meth c Z bytes maxL ret own nm h0 n0 ws EL kn T h vm0 cells slots) (hd : decode bytes pc = .ok (.istore k, 2)) (hp : pc + 2 = pc') (hl : storeLocals Ls k (.int x) = some l')
    (k : Go p.tables e below P (T.setTop (mkF m pc' l' st))) : Go p.tables e below P (T.setTop (mkF m pc Ls (.int x :: st))) := by
  obtain ⟨k0, locs, Y, N, eT, O, K, hx, hby, hml, hret, hlk, hown, hnm, hZ, hS, hk, hC, hEW, hKn, hsh⟩ := X
  subst hp
  exact Go.go (fun t q => XS.istore Y.here hx rfl (hb hby hd) rfl hl q) k
theorem oV {k : Fin 4} {v : Value} {l' : Array Slot} (X : Here p l e R s m args below meth c Z bytes maxL ret own nm h0 n0 ws EL kn T h vm0 cells slots) (hd : decode bytes pc = .ok (.astore_n k, 1)) (hp : pc + 1 = pc') (hv : v.isRef = true) (hl : storeLocals Ls k.val v = some l')
    (k : Go p.tables e below P (T.setTop (mkF m pc' l' st))) : Go p.tables e below P (T.setTop (mkF m pc Ls (v :: st))) := by
  obtain ⟨k0, locs, Y, N, eT, O, K, hx, hby, hml, hret, hlk, hown, hnm, hZ, hS, hk, hC, hEW, hKn, hsh⟩ := X
  subst hp
  exact Go.go (fun t q => XS.astoreN Y.here hx rfl (hb hby hd) rfl hv hl q) k
theorem oU {k : Nat} {v : Value} {l' : Array Slot} (X : Here p l e R s m args below meth c Z bytes maxL ret own nm h0 n0 ws EL kn T h vm0 cells slots) (hd : decode bytes pc = .ok (.astore k, 2)) (hp : pc + 2 = pc') (hv : v.isRef = true) (hl : storeLocals Ls k v = some l')
    (k : Go p.tables e below P (T.setTop (mkF m pc' l' st))) : Go p.tables e below P (T.setTop (mkF m pc Ls (v :: st))) := by
  obtain ⟨k0, locs, Y, N, eT, O, K, hx, hby, hml, hret, hlk, hown, hnm, hZ, hS, hk, hC, hEW, hKn, hsh⟩ := X
  subst hp
  exact Go.go (fun t q => XS.astore Y.here hx rfl (hb hby hd) rfl hv hl q) k
theorem oc {i : Int} {v : Int32} (X : Here p l e R s m args below meth c Z bytes maxL ret own nm h0 n0 ws EL kn T h vm0 cells slots) (hd : decode bytes pc = .ok (.iconst i, 1)) (hp : pc + 1 = pc') (hv : Int32.ofInt i = v)
    (k : Go p.tables e below P (T.setTop (mkF m pc' Ls (.int v :: st)))) : Go p.tables e below P (T.setTop (mkF m pc Ls st)) := by
  obtain ⟨k0, locs, Y, N, eT, O, K, hx, hby, hml, hret, hlk, hown, hnm, hZ, hS, hk, hC, hEW, hKn, hsh⟩ := X
  subst hp hv
  exact Go.go (fun t q => XS.iconst Y.here hx rfl (hb hby hd) q) k
theorem ob {i : Int} {v : Int32} (X : Here p l e R s m args below meth c Z bytes maxL ret own nm h0 n0 ws EL kn T h vm0 cells slots) (hd : decode bytes pc = .ok (.bipush i, 2)) (hp : pc + 2 = pc') (hv : (Int8.ofInt i).toInt32 = v)
    (k : Go p.tables e below P (T.setTop (mkF m pc' Ls (.int v :: st)))) : Go p.tables e below P (T.setTop (mkF m pc Ls st)) := by
  obtain ⟨k0, locs, Y, N, eT, O, K, hx, hby, hml, hret, hlk, hown, hnm, hZ, hS, hk, hC, hEW, hKn, hsh⟩ := X
  subst hp hv
  exact Go.go (fun t q => XS.bipush Y.here hx rfl (hb hby hd) q) k
theorem o_sipush {i : Int} {v : Int32} (X : Here p l e R s m args below meth c Z bytes maxL ret own nm h0 n0 ws EL kn T h vm0 cells slots) (hd : decode bytes pc = .ok (.sipush i, 3)) (hp : pc + 3 = pc') (hv : (Int16.ofInt i).toInt32 = v)
    (k : Go p.tables e below P (T.setTop (mkF m pc' Ls (.int v :: st)))) : Go p.tables e below P (T.setTop (mkF m pc Ls st)) := by
  obtain ⟨k0, locs, Y, N, eT, O, K, hx, hby, hml, hret, hlk, hown, hnm, hZ, hS, hk, hC, hEW, hKn, hsh⟩ := X
  subst hp hv
  exact Go.go (fun t q => XS.sipush Y.here hx rfl (hb hby hd) q) k
theorem o_aconstNull  (X : Here p l e R s m args below meth c Z bytes maxL ret own nm h0 n0 ws EL kn T h vm0 cells slots) (hd : decode bytes pc = .ok (.aconst_null, 1)) (hp : pc + 1 = pc') 
    (k : Go p.tables e below P (T.setTop (mkF m pc' Ls (.null :: st)))) : Go p.tables e below P (T.setTop (mkF m pc Ls st)) := by
  obtain ⟨k0, locs, Y, N, eT, O, K, hx, hby, hml, hret, hlk, hown, hnm, hZ, hS, hk, hC, hEW, hKn, hsh⟩ := X
  subst hp
  exact Go.go (fun t q => XS.aconstNull Y.here hx rfl (hb hby hd)  q) k
theorem o_iadd {x y : Int32} {v : Int32} (X : Here p l e R s m args below meth c Z bytes maxL ret own nm h0 n0 ws EL kn T h vm0 cells slots) (hd : decode bytes pc = .ok (.iadd, 1)) (hp : pc + 1 = pc')  (hv : x + y = v)
    (k : Go p.tables e below P (T.setTop (mkF m pc' Ls (.int v :: st)))) : Go p.tables e below P (T.setTop (mkF m pc Ls (.int y :: .int x :: st))) := by
  obtain ⟨k0, locs, Y, N, eT, O, K, hx, hby, hml, hret, hlk, hown, hnm, hZ, hS, hk, hC, hEW, hKn, hsh⟩ := X
  subst hp hv
  exact Go.go (fun t q => XS.iadd Y.here hx rfl (hb hby hd) rfl q) k
theorem o_isub {x y : Int32} {v : Int32} (X : Here p l e R s m args below meth c Z bytes maxL ret own nm h0 n0 ws EL kn T h vm0 cells slots) (hd : decode bytes pc = .ok (.isub, 1)) (hp : pc + 1 = pc')  (hv : x - y = v)
    (k : Go p.tables e below P (T.setTop (mkF m pc' Ls (.int v :: st)))) : Go p.tables e below P (T.setTop (mkF m pc Ls (.int y :: .int x :: st))) := by
  obtain ⟨k0, locs, Y, N, eT, O, K, hx, hby, hml, hret, hlk, hown, hnm, hZ, hS, hk, hC, hEW, hKn, hsh⟩ := X
  subst hp hv
  exact Go.go (fun t q => XS.isub Y.here hx rfl (hb hby hd) rfl q) k
theorem o_iand {x y : Int32} {v : Int32} (X : Here p l e R s m args below meth c Z bytes maxL ret own nm h0 n0 ws EL kn T h vm0 cells slots) (hd : decode bytes pc = .ok (.iand, 1)) (hp : pc + 1 = pc')  (hv : x &&& y = v)
    (k : Go p.tables e below P (T.setTop (mkF m pc' Ls (.int v :: st)))) : Go p.tables e below P (T.setTop (mkF m pc Ls (.int y :: .int x :: st))) := by
  obtain ⟨k0, locs, Y, N, eT, O, K, hx, hby, hml, hret, hlk, hown, hnm, hZ, hS, hk, hC, hEW, hKn, hsh⟩ := X
  subst hp hv
  exact Go.go (fun t q => XS.iand Y.here hx rfl (hb hby hd) rfl q) k
theorem o_ishl {x y : Int32} {v : Int32} (X : Here p l e R s m args below meth c Z bytes maxL ret own nm h0 n0 ws EL kn T h vm0 cells slots) (hd : decode bytes pc = .ok (.ishl, 1)) (hp : pc + 1 = pc')  (hv : x <<< (y &&& 31) = v)
    (k : Go p.tables e below P (T.setTop (mkF m pc' Ls (.int v :: st)))) : Go p.tables e below P (T.setTop (mkF m pc Ls (.int y :: .int x :: st))) := by
  obtain ⟨k0, locs, Y, N, eT, O, K, hx, hby, hml, hret, hlk, hown, hnm, hZ, hS, hk, hC, hEW, hKn, hsh⟩ := X
  subst hp hv
  exact Go.go (fun t q => XS.ishl Y.here hx rfl (hb hby hd) rfl q) k
theorem o_ishr {x y : Int32} {v : Int32} (X : Here p l e R s m args below meth c Z bytes maxL ret own nm h0 n0 ws EL kn T h vm0 cells slots) (hd : decode bytes pc = .ok (.ishr, 1)) (hp : pc + 1 = pc')  (hv : x >>> (y &&& 31) = v)
    (k : Go p.tables e below P (T.setTop (mkF m pc' Ls (.int v :: st)))) : Go p.tables e below P (T.setTop (mkF m pc Ls (.int y :: .int x :: st))) := by
  obtain ⟨k0, locs, Y, N, eT, O, K, hx, hby, hml, hret, hlk, hown, hnm, hZ, hS, hk, hC, hEW, hKn, hsh⟩ := X
  subst hp hv
  exact Go.go (fun t q => XS.ishr Y.here hx rfl (hb hby hd) rfl q) k
theorem o_iushr {x y : Int32} {v : Int32} (X : Here p l e R s m args below meth c Z bytes maxL ret own nm h0 n0 ws EL kn T h vm0 cells slots) (hd : decode bytes pc = .ok (.iushr, 1)) (hp : pc + 1 = pc')  (hv : (x.toUInt32 >>> (y &&& 31).toUInt32).toInt32 = v)
    (k : Go p.tables e below P (T.setTop (mkF m pc' Ls (.int v :: st)))) : Go p.tables e below P (T.setTop (mkF m pc Ls (.int y :: .int x :: st))) := by
  obtain ⟨k0, locs, Y, N, eT, O, K, hx, hby, hml, hret, hlk, hown, hnm, hZ, hS, hk, hC, hEW, hKn, hsh⟩ := X
  subst hp hv
  exact Go.go (fun t q => XS.iushr Y.here hx rfl (hb hby hd) rfl q) k
theorem o_i2b {x : Int32} {v : Int32} (X : Here p l e R s m args below meth c Z bytes maxL ret own nm h0 n0 ws EL kn T h vm0 cells slots) (hd : decode bytes pc = .ok (.i2b, 1)) (hp : pc + 1 = pc')  (hv : x.toInt8.toInt32 = v)
    (k : Go p.tables e below P (T.setTop (mkF m pc' Ls (.int v :: st)))) : Go p.tables e below P (T.setTop (mkF m pc Ls (.int x :: st))) := by
  obtain ⟨k0, locs, Y, N, eT, O, K, hx, hby, hml, hret, hlk, hown, hnm, hZ, hS, hk, hC, hEW, hKn, hsh⟩ := X
  subst hp hv
  exact Go.go (fun t q => XS.i2b Y.here hx rfl (hb hby hd) rfl q) k
theorem o_i2c {x : Int32} {v : Int32} (X : Here p l e R s m args below meth c Z bytes maxL ret own nm h0 n0 ws EL kn T h vm0 cells slots) (hd : decode bytes pc = .ok (.i2c, 1)) (hp : pc + 1 = pc')  (hv : x.toUInt32.toUInt16.toUInt32.toInt32 = v)
    (k : Go p.tables e below P (T.setTop (mkF m pc' Ls (.int v :: st)))) : Go p.tables e below P (T.setTop (mkF m pc Ls (.int x :: st))) := by
  obtain ⟨k0, locs, Y, N, eT, O, K, hx, hby, hml, hret, hlk, hown, hnm, hZ, hS, hk, hC, hEW, hKn, hsh⟩ := X
  subst hp hv
  exact Go.go (fun t q => XS.i2c Y.here hx rfl (hb hby hd) rfl q) k
theorem oJ (y : Int32) (l' : Array Slot) {k : Nat} {i : Int} {x : Int32} (X : Here p l e R s m args below meth c Z bytes maxL ret own nm h0 n0 ws EL kn T h vm0 cells slots) (hd : decode bytes pc = .ok (.iinc k i, 3)) (hp : pc + 3 = pc') (hl : Ls[k]? = some (.val (.int x))) (hy : x + Int32.ofInt i = y) (hl' : storeLocals Ls k (.int y) = some l')
    (k : Go p.tables e below P (T.setTop (mkF m pc' l' st))) : Go p.tables e below P (T.setTop (mkF m pc Ls st)) := by
  obtain ⟨k0, locs, Y, N, eT, O, K, hx, hby, hml, hret, hlk, hown, hnm, hZ, hS, hk, hC, hEW, hKn, hsh⟩ := X
  subst hp
  exact Go.go (fun t q => XS.iinc Y.here hx rfl (hb hby hd) hl (hy ▸ hl') q) k
theorem oA {k : Fin 4} {a : Addr} (X : Here p l e R s m args below meth c Z bytes maxL ret own nm h0 n0 ws EL kn T h vm0 cells slots) (hd : decode bytes pc = .ok (.aload_n k, 1)) (hp : pc + 1 = pc') (hl : Ls[k.val]? = some (.val (.ref a)))
    (k' : Go p.tables e below P (T.setTop (mkF m pc' Ls (.ref a :: st)))) : Go p.tables e below P (T.setTop (mkF m pc Ls st)) := o_aloadN pc' X hd hp hl rfl k'
theorem oa {k : Nat} {a : Addr} (X : Here p l e R s m args below meth c Z bytes maxL ret own nm h0 n0 ws EL kn T h vm0 cells slots) (hd : decode bytes pc = .ok (.aload k, 2)) (hp : pc + 2 = pc') (hl : Ls[k]? = some (.val (.ref a)))
    (k' : Go p.tables e below P (T.setTop (mkF m pc' Ls (.ref a :: st)))) : Go p.tables e below P (T.setTop (mkF m pc Ls st)) := o_aload pc' X hd hp hl rfl k'
theorem oD {x : Value} (X : Here p l e R s m args below meth c Z bytes maxL ret own nm h0 n0 ws EL kn T h vm0 cells slots) (hd : decode bytes pc = .ok (.dup, 1)) (hp : pc + 1 = pc') (hc : x.category = 1)
    (k : Go p.tables e below P (T.setTop (mkF m pc' Ls (x :: x :: st)))) : Go p.tables e below P (T.setTop (mkF m pc Ls (x :: st))) := by
  obtain ⟨k0, locs, Y, N, eT, O, K, hx, hby, hml, hret, hlk, hown, hnm, hZ, hS, hk, hC, hEW, hKn, hsh⟩ := X
  subst hp
  exact Go.go (fun t q => XS.dup Y.here hx rfl (hb hby hd) rfl hc q) k
theorem o_pop {x : Value} (X : Here p l e R s m args below meth c Z bytes maxL ret own nm h0 n0 ws EL kn T h vm0 cells slots) (hd : decode bytes pc = .ok (.pop, 1)) (hp : pc + 1 = pc') (hc : x.category = 1)
    (k : Go p.tables e below P (T.setTop (mkF m pc' Ls st))) : Go p.tables e below P (T.setTop (mkF m pc Ls (x :: st))) := by
  obtain ⟨k0, locs, Y, N, eT, O, K, hx, hby, hml, hret, hlk, hown, hnm, hZ, hS, hk, hC, hEW, hKn, hsh⟩ := X
  subst hp
  exact Go.go (fun t q => XS.pop Y.here hx rfl (hb hby hd) rfl hc q) k
theorem o_dupX1 {x y : Value} (X : Here p l e R s m args below meth c Z bytes maxL ret own nm h0 n0 ws EL kn T h vm0 cells slots) (hd : decode bytes pc = .ok (.dup_x1, 1)) (hp : pc + 1 = pc') (hc : x.category = 1) (hc' : y.category = 1)
    (k : Go p.tables e below P (T.setTop (mkF m pc' Ls (x :: y :: x :: st)))) : Go p.tables e below P (T.setTop (mkF m pc Ls (x :: y :: st))) := by
  obtain ⟨k0, locs, Y, N, eT, O, K, hx, hby, hml, hret, hlk, hown, hnm, hZ, hS, hk, hC, hEW, hKn, hsh⟩ := X
  subst hp
  exact Go.go (fun t q => XS.dupX1 Y.here hx rfl (hb hby hd) rfl hc hc' q) k
theorem o_goto  {o : Int} (X : Here p l e R s m args below meth c Z bytes maxL ret own nm h0 n0 ws EL kn T h vm0 cells slots) (hd : decode bytes pc = .ok (.goto o, 3)) (ho : 0 ≤ (pc : Int) + o) (hp : ((pc : Int) + o).toNat = pc') 
    (k : Go p.tables e below P (T.setTop (mkF m pc' Ls st))) : Go p.tables e below P (T.setTop (mkF m pc Ls st)) := by
  obtain ⟨k0, locs, Y, N, eT, O, K, hx, hby, hml, hret, hlk, hown, hnm, hZ, hS, hk, hC, hEW, hKn, hsh⟩ := X
  exact Go.go (fun t q => XS.goto Y.here hx rfl (pc0 := pc) (pc' := pc') rfl (hb hby hd)  ho hp q) k
theorem og  {o : Int} (X : Here p l e R s m args below meth c Z bytes maxL ret own nm h0 n0 ws EL kn T h vm0 cells slots) (hd : decode bytes pc = .ok (.goto o, 3)) (hj : 0 ≤ (pc : Int) + o ∧ ((pc : Int) + o).toNat = pc') 
    (k : Go p.tables e below P (T.setTop (mkF m pc' Ls st))) : Go p.tables e below P (T.setTop (mkF m pc Ls st)) := o_goto pc' X hd hj.1 hj.2  k
theorem o_ifYes {cd : ClassFile.Cond} {x : Int32} {o : Int} (X : Here p l e R s m args below meth c Z bytes maxL ret own nm h0 n0 ws EL kn T h vm0 cells slots) (hd : decode bytes pc = .ok (.ifCond cd o, 3)) (ho : 0 ≤ (pc : Int) + o) (hp : ((pc : Int) + o).toNat = pc') (hc : ifCond.holds cd x = true)
    (k : Go p.tables e below P (T.setTop (mkF m pc' Ls st))) : Go p.tables e below P (T.setTop (mkF m pc Ls (.int x :: st))) := by
  obtain ⟨k0, locs, Y, N, eT, O, K, hx, hby, hml, hret, hlk, hown, hnm, hZ, hS, hk, hC, hEW, hKn, hsh⟩ := X
  exact Go.go (fun t q => XS.ifYes Y.here hx rfl (pc0 := pc) (pc' := pc') rfl (hb hby hd) rfl hc ho hp q) k
theorem oy {cd : ClassFile.Cond} {x : Int32} {o : Int} (X : Here p l e R s m args below meth c Z bytes maxL ret own nm h0 n0 ws EL kn T h vm0 cells slots) (hd : decode bytes pc = .ok (.ifCond cd o, 3)) (hj : 0 ≤ (pc : Int) + o ∧ ((pc : Int) + o).toNat = pc') (hc : ifCond.holds cd x = true)
    (k : Go p.tables e below P (T.setTop (mkF m pc' Ls st))) : Go p.tables e below P (T.setTop (mkF m pc Ls (.int x :: st))) := o_ifYes pc' X hd hj.1 hj.2 hc k
theorem on {cd : ClassFile.Cond} {x : Int32} {o : Int} (X : Here p l e R s m args below meth c Z bytes maxL ret own nm h0 n0 ws EL kn T h vm0 cells slots) (hd : decode bytes pc = .ok (.ifCond cd o, 3)) (hp : pc + 3 = pc') (hc : ifCond.holds cd x = false)
    (k : Go p.tables e below P (T.setTop (mkF m pc' Ls st))) : Go p.tables e below P (T.setTop (mkF m pc Ls (.int x :: st))) := by
  obtain ⟨k0, locs, Y, N, eT, O, K, hx, hby, hml, hret, hlk, hown, hnm, hZ, hS, hk, hC, hEW, hKn, hsh⟩ := X
  subst hp
  exact Go.go (fun t q => XS.ifNo Y.here hx rfl (hb hby hd) rfl hc q) k
theorem o_icmpYes {cd : ClassFile.Cond} {x y : Int32} {o : Int} (X : Here p l e R s m args below meth c Z bytes maxL ret own nm h0 n0 ws EL kn T h vm0 cells slots) (hd : decode bytes pc = .ok (.if_icmp cd o, 3)) (ho : 0 ≤ (pc : Int) + o) (hp : ((pc : Int) + o).toNat = pc') (hc : if_icmp.holds cd x y = true)
    (k : Go p.tables e below P (T.setTop (mkF m pc' Ls st))) : Go p.tables e below P (T.setTop (mkF m pc Ls (.int y :: .int x :: st))) := by
  obtain ⟨k0, locs, Y, N, eT, O, K, hx, hby, hml, hret, hlk, hown, hnm, hZ, hS, hk, hC, hEW, hKn, hsh⟩ := X
  exact Go.go (fun t q => XS.icmpYes Y.here hx rfl (pc0 := pc) (pc' := pc') rfl (hb hby hd) rfl hc ho hp q) k
theorem oY {cd : ClassFile.Cond} {x y : Int32} {o : Int} (X : Here p l e R s m args below meth c Z bytes maxL ret own nm h0 n0 ws EL kn T h vm0 cells slots) (hd : decode bytes pc = .ok (.if_icmp cd o, 3)) (hj : 0 ≤ (pc : Int) + o ∧ ((pc : Int) + o).toNat = pc') (hc : if_icmp.holds cd x y = true)
    (k : Go p.tables e below P (T.setTop (mkF m pc' Ls st))) : Go p.tables e below P (T.setTop (mkF m pc Ls (.int y :: .int x :: st))) := o_icmpYes pc' X hd hj.1 hj.2 hc k
theorem oN {cd : ClassFile.Cond} {x y : Int32} {o : Int} (X : Here p l e R s m args below meth c Z bytes maxL ret own nm h0 n0 ws EL kn T h vm0 cells slots) (hd : decode bytes pc = .ok (.if_icmp cd o, 3)) (hp : pc + 3 = pc') (hc : if_icmp.holds cd x y = false)
    (k : Go p.tables e below P (T.setTop (mkF m pc' Ls st))) : Go p.tables e below P (T.setTop (mkF m pc Ls (.int y :: .int x :: st))) := by
  obtain ⟨k0, locs, Y, N, eT, O, K, hx, hby, hml, hret, hlk, hown, hnm, hZ, hS, hk, hC, hEW, hKn, hsh⟩ := X
  subst hp
  exact Go.go (fun t q => XS.icmpNo Y.here hx rfl (hb hby hd) rfl hc q) k
theorem o_ifnonnullYes {b : Addr} {o : Int} (X : Here p l e R s m args below meth c Z bytes maxL ret own nm h0 n0 ws EL kn T h vm0 cells slots) (hd : decode bytes pc = .ok (.ifnonnull o, 3)) (ho : 0 ≤ (pc : Int) + o) (hp : ((pc : Int) + o).toNat = pc') 
    (k : Go p.tables e below P (T.setTop (mkF m pc' Ls st))) : Go p.tables e below P (T.setTop (mkF m pc Ls (.ref b :: st))) := by
  obtain ⟨k0, locs, Y, N, eT, O, K, hx, hby, hml, hret, hlk, hown, hnm, hZ, hS, hk, hC, hEW, hKn, hsh⟩ := X
  exact Go.go (fun t q => XS.ifnonnullYes Y.here hx rfl (pc0 := pc) (pc' := pc') rfl (hb hby hd) rfl  ho hp q) k
theorem ifnonnullYesJ {b : Addr} {o : Int} (X : Here p l e R s m args below meth c Z bytes maxL ret own nm h0 n0 ws EL kn T h vm0 cells slots) (hd : decode bytes pc = .ok (.ifnonnull o, 3)) (hj : 0 ≤ (pc : Int) + o ∧ ((pc : Int) + o).toNat = pc') 
    (k : Go p.tables e below P (T.setTop (mkF m pc' Ls st))) : Go p.tables e below P (T.setTop (mkF m pc Ls (.ref b :: st))) := o_ifnonnullYes pc' X hd hj.1 hj.2  k
theorem o_acmp {cd : ACond} {x y : Value} {o : Int} {same : Bool} (X : Here p l e R s m args below meth c Z bytes maxL ret own nm h0 n0 ws EL kn T h vm0 cells slots) (hd : decode bytes pc = .ok (.if_acmp cd o, 3)) (h1 : x.isRef = true) (h2 : y.isRef = true) (hq : decide (x = y) = same) (ho : 0 ≤ (pc : Int) + o) (hp : pc' = if acV cd same = true then ((pc : Int) + o).toNat else pc + 3)
    (k : Go p.tables e below P (T.setTop (mkF m pc' Ls st))) : Go p.tables e below P (T.setTop (mkF m pc Ls (y :: x :: st))) := by
  obtain ⟨k0, locs, Y, N, eT, O, K, hx, hby, hml, hret, hlk, hown, hnm, hZ, hS, hk, hC, hEW, hKn, hsh⟩ := X
  exact Go.go (fun t q => RoadKit.acmp (g := mkF m pc Ls (y :: x :: st)) Y hx rfl h1 h2 (pc0 := pc) (pc' := pc') rfl (hb hby hd) rfl hq ho hp q) k
theorem oF {R0 O n d : String} {index : Nat} {a : Addr} {v : Value} (X : Here p l e R s m args below meth c Z bytes maxL ret own nm h0 n0 ws EL kn T h vm0 cells slots) (w : (Cond.fieldLink own index R0 n d).before a0 Z = true) (via : Via Z R0 O n d) (F : Fld Z h a O n d v) (hd : decode bytes pc = .ok (.getfield index, 3)) (hp : pc + 3 = pc')
    (k : ∀ T', Here p l e R s m args below meth c Z bytes maxL ret own nm h0 n0 ws EL kn T' h vm0 cells slots → Go p.tables e below P (T'.setTop (mkF m pc' Ls (v :: st)))) : Go p.tables e below P (T.setTop (mkF m pc Ls (.ref a :: st))) := by
  obtain ⟨k0, locs, Y, N, eT, O, K, hx, hby, hml, hret, hlk, hown, hnm, hZ, hS, hk, hC, hEW, hKn, hsh⟩ := X
  subst hp
  obtain ⟨T', Y', e', st'⟩ := RoadKit.getF Y hx hZ hown (host := "") (Or.inl w) via eT F (g := mkF m pc Ls (.ref a :: st)) rfl rfl (hb hby hd)
  exact Go.go st' (k T' ⟨k0, locs, Y', N, e', O, K, hx, hby, hml, hret, hlk, hown, hnm, hZ, hS, hk, hC, hEW, hKn, hsh⟩)
theorem o_getFN {R0 O n d host : String} {index : Nat} {a : Addr} {v : Value} (X : Here p l e R s m args below meth c Z bytes maxL ret own nm h0 n0 ws EL kn T h vm0 cells slots) (w : (Cond.fieldLinkNest own index R0 n d host).before a0 Z = true) (via : Via Z R0 O n d) (F : Fld Z h a O n d v) (hd : decode bytes pc = .ok (.getfield index, 3)) (hp : pc + 3 = pc')
    (k : ∀ T', Here p l e R s m args below meth c Z bytes maxL ret own nm h0 n0 ws EL kn T' h vm0 cells slots → Go p.tables e below P (T'.setTop (mkF m pc' Ls (v :: st)))) : Go p.tables e below P (T.setTop (mkF m pc Ls (.ref a :: st))) := by
  obtain ⟨k0, locs, Y, N, eT, O, K, hx, hby, hml, hret, hlk, hown, hnm, hZ, hS, hk, hC, hEW, hKn, hsh⟩ := X
  subst hp
  obtain ⟨T', Y', e', st'⟩ := RoadKit.getF Y hx hZ hown (Or.inr w) via eT F (g := mkF m pc Ls (.ref a :: st)) rfl rfl (hb hby hd)
  exact Go.go st' (k T' ⟨k0, locs, Y', N, e', O, K, hx, hby, hml, hret, hlk, hown, hnm, hZ, hS, hk, hC, hEW, hKn, hsh⟩)
theorem oG {R0 O n d : String} {index : Nat} {v : Value} (X : Here p l e R s m args below meth c Z bytes maxL ret own nm h0 n0 ws EL kn T h vm0 cells slots) (w : (Cond.fieldLink own index R0 n d).before a0 Z = true) (via : Via Z R0 O n d) (F : Sta Z h O n d v) (hd : decode bytes pc = .ok (.getstatic index, 3)) (hp : pc + 3 = pc')
    (k : ∀ T', Here p l e R s m args below meth c Z bytes maxL ret own nm h0 n0 ws EL kn T' h vm0 cells slots → Go p.tables e below P (T'.setTop (mkF m pc' Ls (v :: st)))) : Go p.tables e below P (T.setTop (mkF m pc Ls st)) := by
  obtain ⟨k0, locs, Y, N, eT, O, K, hx, hby, hml, hret, hlk, hown, hnm, hZ, hS, hk, hC, hEW, hKn, hsh⟩ := X
  subst hp
  obtain ⟨T', Y', e', st'⟩ := getS2 Y hx hZ hown (host := "") (Or.inl w) via eT F (g := mkF m pc Ls st) rfl (hb hby hd)
  exact Go.go st' (k T' ⟨k0, locs, Y', N, e', O, K, hx, hby, hml, hret, hlk, hown, hnm, hZ, hS, hk, hC, hEW, hKn, hsh⟩)
theorem o_castY {K' : String} {index : Nat} {a : Addr} (X : Here p l e R s m args below meth c Z bytes maxL ret own nm h0 n0 ws EL kn T h vm0 cells slots) (w : (Cond.classLink own index K').before a0 Z = true) (F : Ins Z h a K' true) (hd : decode bytes pc = .ok (.checkcast index, 3)) (hp : pc + 3 = pc')
    (k : ∀ T', Here p l e R s m args below meth c Z bytes maxL ret own nm h0 n0 ws EL kn T' h vm0 cells slots → Go p.tables e below P (T'.setTop (mkF m pc' Ls (.ref a :: st)))) : Go p.tables e below P (T.setTop (mkF m pc Ls (.ref a :: st))) := by
  obtain ⟨k0, locs, Y, N, eT, O, K, hx, hby, hml, hret, hlk, hown, hnm, hZ, hS, hk, hC, hEW, hKn, hsh⟩ := X
  subst hp
  obtain ⟨T', Y', e', st'⟩ := RoadKit.castY Y hx hZ hown w eT F (g := mkF m pc Ls (.ref a :: st)) rfl rfl (hb hby hd)
  exact Go.go st' (k T' ⟨k0, locs, Y', N, e', O, K, hx, hby, hml, hret, hlk, hown, hnm, hZ, hS, hk, hC, hEW, hKn, hsh⟩)
theorem o_instY {K' : String} {index : Nat} {a : Addr} (X : Here p l e R s m args below meth c Z bytes maxL ret own nm h0 n0 ws EL kn T h vm0 cells slots) (w : (Cond.classLink own index K').before a0 Z = true) (F : Ins Z h a K' true) (hd : decode bytes pc = .ok (.instanceof index, 3)) (hp : pc + 3 = pc')
    (k : ∀ T', Here p l e R s m args below meth c Z bytes maxL ret own nm h0 n0 ws EL kn T' h vm0 cells slots → Go p.tables e below P (T'.setTop (mkF m pc' Ls (.int 1 :: st)))) : Go p.tables e below P (T.setTop (mkF m pc Ls (.ref a :: st))) := by
  obtain ⟨k0, locs, Y, N, eT, O, K, hx, hby, hml, hret, hlk, hown, hnm, hZ, hS, hk, hC, hEW, hKn, hsh⟩ := X
  subst hp
  obtain ⟨T', Y', e', st'⟩ := RoadKit.instY Y hx hZ hown w eT F (g := mkF m pc Ls (.ref a :: st)) rfl rfl (hb hby hd)
  exact Go.go st' (k T' ⟨k0, locs, Y', N, e', O, K, hx, hby, hml, hret, hlk, hown, hnm, hZ, hS, hk, hC, hEW, hKn, hsh⟩)
theorem o_initO {idx W : Nat} {a : Addr} (X : Here p l e R s m args below meth c Z bytes maxL ret own nm h0 n0 ws EL kn T h vm0 cells slots) (w1 : (Cond.methodLink own idx Lib.objectInit).before a0 Z = true) (w2 : (Cond.instanceMethod Lib.objectInit).before a0 Z = true) (w3 : (Cond.code Lib.objectInit ⟨#[0xb1]⟩ 1 none).before a0 Z = true) (hsz : Ls.size = maxL) (hf : 1 ≤ R.frames) (hW : (st.map fun v => v.category).sum ≤ W) (hl : W + 12 ≤ R.locals) (hd : decode bytes pc = .ok (.invokespecial idx, 3)) (hp : pc + 3 = pc')
    (k : ∀ T', Here p l e R s m args below meth c Z bytes maxL ret own nm h0 n0 ws EL kn T' h vm0 cells slots → Go p.tables e below P (T'.setTop (mkF m pc' Ls st))) : Go p.tables e below P (T.setTop (mkF m pc Ls (.ref a :: st))) := by
  obtain ⟨k0, locs, Y, N, eT, O, K, hx, hby, hml, hret, hlk, hown, hnm, hZ, hS, hk, hC, hEW, hKn, hsh⟩ := X
  subst hp
  obtain ⟨T', Y', e', st'⟩ := RoadKit.initO Y hx hZ hown w1 w2 w3 eT (g := mkF m pc Ls (.ref a :: st)) rfl (by rw [hml]; exact hsz) rfl (hb hby hd) hf (W := W) (by show 2 * 0 + _ ≤ _; omega) hl
  exact Go.go st' (k T' ⟨k0, locs, Y', N, e', O, K, hx, hby, hml, hret, hlk, hown, hnm, hZ, hS, hk, hC, hEW, hKn, hsh⟩)
theorem o_ldcK {C : String} {index : Nat} {mr : Addr} (X : Here p l e R s m args below meth c Z bytes maxL ret own nm h0 n0 ws EL kn T h vm0 cells slots) (w : (Cond.classLink own index C).before a0 Z = true) (M : Mir Z C mr) (hd : decode bytes pc = .ok (.ldc index, 2)) (hp : pc + 2 = pc')
    (k : ∀ T', Here p l e R s m args below meth c Z bytes maxL ret own nm h0 n0 ws EL kn T' h vm0 cells slots → Go p.tables e below P (T'.setTop (mkF m pc' Ls (.ref mr :: st)))) : Go p.tables e below P (T.setTop (mkF m pc Ls st)) := by
  obtain ⟨k0, locs, Y, N, eT, O, K, hx, hby, hml, hret, hlk, hown, hnm, hZ, hS, hk, hC, hEW, hKn, hsh⟩ := X
  subst hp
  obtain ⟨T', Y', e', st'⟩ := own_ldcM Y hx hZ hown w eT M (g := mkF m pc Ls st) rfl (hb hby hd)
  exact Go.go st' (k T' ⟨k0, locs, Y', N, e', O, K, hx, hby, hml, hret, hlk, hown, hnm, hZ, hS, hk, hC, hEW, hKn, hsh⟩)
theorem o_gcV {C : String} {index W : Nat} {a mr : Addr} (X : Here p l e R s m args below meth c Z bytes maxL ret own nm h0 n0 ws EL kn T h vm0 cells slots) (w1 : (Cond.methodLink own index Jvm.Stand.gcN).before a0 Z = true) (w2 : (Cond.declares Jvm.Stand.gcN).before a0 Z = true) (nf : ∀ s' : State, Z.Warmed39 s'.vm → NotFace s' Jvm.Stand.gcN) (w4 : (Cond.selects C Jvm.Stand.gcN Jvm.Stand.gcN).before a0 Z = true) (w5 : (Cond.instanceMethod Jvm.Stand.gcN).before a0 Z = true) (w6 : (Cond.native Jvm.Stand.gcN).before a0 Z = true) (E : Exa Z h a C) (M : Mir Z C mr) (hsz : Ls.size = maxL) (hf : 1 ≤ R.frames) (hW : (st.map fun v => v.category).sum ≤ W) (hl : W + (nativeFrameWords "java/lang/Object" "getClass" 1 + 11) ≤ R.locals) (hd : decode bytes pc = .ok (.invokevirtual index, 3)) (hp : pc + 3 = pc')
    (k : ∀ T', Here p l e R s m args below meth c Z bytes maxL ret own nm h0 n0 ws EL kn T' h vm0 cells slots → Go p.tables e below P (T'.setTop (mkF m pc' Ls (.ref mr :: st)))) : Go p.tables e below P (T.setTop (mkF m pc Ls (.ref a :: st))) := by
  obtain ⟨k0, locs, Y, N, eT, O, K, hx, hby, hml, hret, hlk, hown, hnm, hZ, hS, hk, hC, hEW, hKn, hsh⟩ := X
  subst hp
  obtain ⟨T', Y', e', st'⟩ := own_gcV Y hx hZ hown w1 w2 nf w4 w5 w6 eT E M (g := mkF m pc Ls (.ref a :: st)) rfl (by rw [hml]; exact hsz) rfl (hb hby hd) hf (W := W) (by show 2 * 0 + _ ≤ _; omega) hl
  exact Go.go st' (k T' ⟨k0, locs, Y', N, e', O, K, hx, hby, hml, hret, hlk, hown, hnm, hZ, hS, hk, hC, hEW, hKn, hsh⟩)
theorem o_gcI {C : String} {xi : MethodName} {index count W : Nat} {a mr : Addr} (X : Here p l e R s m args below meth c Z bytes maxL ret own nm h0 n0 ws EL kn T h vm0 cells slots) (w1 : (Cond.methodLink own index xi).before a0 Z = true) (w2 : (Cond.declares Jvm.Stand.gcN).before a0 Z = true) (w3 : (Cond.interfaceMethod xi.cls "java/lang/Object" xi.name xi.desc).before a0 Z = true) (w4 : (Cond.selects C xi Jvm.Stand.gcN).before a0 Z = true) (w5 : (Cond.instanceMethod Jvm.Stand.gcN).before a0 Z = true) (w6 : (Cond.publicMethod Jvm.Stand.gcN).before a0 Z = true) (w7 : (Cond.unhidden C xi.name xi.desc).before a0 Z = true) (w8 : (Cond.castable C xi.cls).before a0 Z = true) (w9 : (Cond.native Jvm.Stand.gcN).before a0 Z = true) (hxi : xi.cls ≠ "java/lang/invoke/MethodHandle" ∧ xi.cls ≠ "java/lang/invoke/VarHandle") (hxo : xi.cls ≠ "java/lang/Object") (hn1 : xi.name = "getClass") (hn2 : xi.desc = "()Ljava/lang/Class;") (E : Exa Z h a C) (M : Mir Z C mr) (hsz : Ls.size = maxL) (hf : 1 ≤ R.frames) (hW : (st.map fun v => v.category).sum ≤ W) (hl : W + (nativeFrameWords "java/lang/Object" "getClass" 1 + 11) ≤ R.locals) (hd : decode bytes pc = .ok (.invokeinterface index count, 5)) (hp : pc + 5 = pc')
    (k : ∀ T', Here p l e R s m args below meth c Z bytes maxL ret own nm h0 n0 ws EL kn T' h vm0 cells slots → Go p.tables e below P (T'.setTop (mkF m pc' Ls (.ref mr :: st)))) : Go p.tables e below P (T.setTop (mkF m pc Ls (.ref a :: st))) := by
  obtain ⟨k0, locs, Y, N, eT, O, K, hx, hby, hml, hret, hlk, hown, hnm, hZ, hS, hk, hC, hEW, hKn, hsh⟩ := X
  subst hp
  obtain ⟨T', Y', e', st'⟩ := own_gcI Y hx hZ hown w1 w2 w3 w4 w5 w6 w7 w8 w9 hxi hxo hn1 hn2 eT E M (g := mkF m pc Ls (.ref a :: st)) rfl (by rw [hml]; exact hsz) rfl (hb hby hd) hf (W := W) (by show 2 * 0 + _ ≤ _; omega) hl
  exact Go.go st' (k T' ⟨k0, locs, Y', N, e', O, K, hx, hby, hml, hret, hlk, hown, hnm, hZ, hS, hk, hC, hEW, hKn, hsh⟩)
theorem oL {a : Addr} {ka : ClassId} {ty : FieldType} {n : Int32} {vs : List Value} {d : Value} (X : Here p l e R s m args below meth c Z bytes maxL ret own nm h0 n0 ws EL kn T h vm0 cells slots) (F : Arv Z h a ka ty n vs d) (hd : decode bytes pc = .ok (.arraylength, 1)) (hp : pc + 1 = pc')
    (k : Go p.tables e below P (T.setTop (mkF m pc' Ls (.int n :: st)))) : Go p.tables e below P (T.setTop (mkF m pc Ls (.ref a :: st))) := by
  obtain ⟨k0, locs, Y, N, eT, O, K, hx, hby, hml, hret, hlk, hown, hnm, hZ, hS, hk, hC, hEW, hKn, hsh⟩ := X
  subst hp
  obtain ⟨cl, A, -, S, q, -⟩ := F
  refine Go.go (Y.arraylength hx (by rw [eT]; exact A.1) (State.isArrayOf_alike hZ.alike A.2.1) (g := mkF m pc Ls (.ref a :: st)) rfl rfl (hb hby hd)) ?_
  rw [len_of S q]
  exact k
theorem oC {a : Addr} {ka : ClassId} {n j : Int32} {vs : List Value} {d v : Value} (X : Here p l e R s m args below meth c Z bytes maxL ret own nm h0 n0 ws EL kn T h vm0 cells slots) (F : Arv Z h a ka .char n vs d) (hj : ¬ j < 0 ∧ j < n) (hv : vs.getD j.toNatClampNeg d = v) (hd : decode bytes pc = .ok (.caload, 1)) (hp : pc + 1 = pc')
    (k : Go p.tables e below P (T.setTop (mkF m pc' Ls (v :: st)))) : Go p.tables e below P (T.setTop (mkF m pc Ls (.int j :: .ref a :: st))) := by
  obtain ⟨k0, locs, Y, N, eT, O, K, hx, hby, hml, hret, hlk, hown, hnm, hZ, hS, hk, hC, hEW, hKn, hsh⟩ := X
  subst hp
  obtain ⟨cl, A, -, S, q, H, -⟩ := F
  have hin := inb_of S hj
  exact Go.go (Y.caload hx (by rw [eT]; exact A.1) (State.isArrayOf_alike hZ.alike A.2.1) A.2.2 hin (H.at hin hv) (g := mkF m pc Ls (.int j :: .ref a :: st)) rfl rfl (hb hby hd)) k
theorem oB {a : Addr} {ka : ClassId} {n j : Int32} {vs : List Value} {d v : Value} (X : Here p l e R s m args below meth c Z bytes maxL ret own nm h0 n0 ws EL kn T h vm0 cells slots) (F : Arv Z h a ka .byte n vs d) (hj : ¬ j < 0 ∧ j < n) (hv : vs.getD j.toNatClampNeg d = v) (hd : decode bytes pc = .ok (.baload, 1)) (hp : pc + 1 = pc')
    (k : Go p.tables e below P (T.setTop (mkF m pc' Ls (v :: st)))) : Go p.tables e below P (T.setTop (mkF m pc Ls (.int j :: .ref a :: st))) := by
  obtain ⟨k0, locs, Y, N, eT, O, K, hx, hby, hml, hret, hlk, hown, hnm, hZ, hS, hk, hC, hEW, hKn, hsh⟩ := X
  subst hp
  obtain ⟨cl, A, -, S, q, H, -⟩ := F
  have hin := inb_of S hj
  exact Go.go (Y.baloadBytes hx (by rw [eT]; exact A.1) (State.isArrayOf_alike hZ.alike A.2.1) A.2.2 hin (H.at hin hv) (g := mkF m pc Ls (.int j :: .ref a :: st)) rfl rfl (hb hby hd)) k
theorem o_aaload {a : Addr} {ka : ClassId} {ty : FieldType} {n j : Int32} {vs : List Value} {d v : Value} (X : Here p l e R s m args below meth c Z bytes maxL ret own nm h0 n0 ws EL kn T h vm0 cells slots) (F : Arv Z h a ka ty n vs d) (hty : ty.isReference = true) (hj : ¬ j < 0 ∧ j < n) (hv : vs.getD j.toNatClampNeg d = v) (hd : decode bytes pc = .ok (.aaload, 1)) (hp : pc + 1 = pc')
    (k : Go p.tables e below P (T.setTop (mkF m pc' Ls (v :: st)))) : Go p.tables e below P (T.setTop (mkF m pc Ls (.int j :: .ref a :: st))) := by
  obtain ⟨k0, locs, Y, N, eT, O, K, hx, hby, hml, hret, hlk, hown, hnm, hZ, hS, hk, hC, hEW, hKn, hsh⟩ := X
  subst hp
  obtain ⟨cl, A, -, S, q, H, -⟩ := F
  have hin := inb_of S hj
  exact Go.go (Y.aaload hx (by rw [eT]; exact A.1) (State.isArrayOf_alike hZ.alike A.2.1) hty A.2.2 hin (H.at hin hv) (g := mkF m pc Ls (.int j :: .ref a :: st)) rfl rfl (hb hby hd)) k
theorem o_new {C : String} {index kk : Nat} (X : Here p l e R s m args below meth c Z bytes maxL ret own nm h0 n0 ws EL kn T h vm0 cells slots) (w : (Cond.classLink own index C).before a0 Z = true) (wi : (Cond.instantiable C kk).before a0 Z = true) (wz : (Cond.initialized C).before a0 Z = true) (hd : decode bytes pc = .ok (.new index, 3)) (hp : pc + 3 = pc') (hc : cells + 1 ≤ R.cells) (hl : slots + kk ≤ R.slots)
    (k : ∀ T' h' b, Here p l e R s m args below meth c Z bytes maxL ret own nm h0 n0 ws EL kn T' h' vm0 (cells + 1) (slots + kk) → b = h.size → b < h'.size → Ext h h' → Exa Z h' b C → (∀ {O nm d : String} {ty : FieldType}, Laid Z a0 C O nm d → parseFieldDescriptor d = some ty → Fld Z h' b O nm d (defaultValue ty)) → Unt h' b → CHr Z EL vm0 h vm0 h' → Safe Z EL vm0 h' b → Go p.tables e below P (T'.setTop (mkF m pc' Ls (.ref b :: st)))) : Go p.tables e below P (T.setTop (mkF m pc Ls st)) := by
  obtain ⟨k0, locs, Y, N, eT, O, K, hx, hby, hml, hret, hlk, hown, hnm, hZ, hS, hk, hC, hEW, hKn, hsh⟩ := X
  subst hp
  obtain ⟨T', h', Y', e', E', A', D', U', st'⟩ := newO Y hx hZ hown w wi wz eT (g := mkF m pc Ls st) rfl (hb hby hd) hc hl
  exact Go.go st' (k T' h' _ ⟨k0, locs, Y', N, e', O.ext E', K.ext E', hx, hby, hml, hret, hlk, hown, hnm, hZ, hS, Nat.le_trans hk E'.1, hC.trans (CHr.ext E' hC.1), hEW, hKn, hsh⟩ rfl A'.lt E' A' D' U' (CHr.ext E' hC.1) (Safe.ext E' hC.1 (Safe.new (Nat.le_refl _))))
theorem o_newP {aty : ArrayType} {n : Int32} {cap : Nat} {ad : String} (X : Here p l e R s m args below meth c Z bytes maxL ret own nm h0 n0 ws EL kn T h vm0 cells slots) (w : (Cond.arrayClass (newarray.typeOf aty)).before a0 Z = true) (hd : decode bytes pc = .ok (.newarray aty, 2)) (hp : pc + 2 = pc') (hn : ¬ n < 0) (hcap : n.toNatClampNeg ≤ cap) (hb' : cap * 8 ≤ 536870912) (hc : cells + 1 ≤ R.cells) (hl : slots + cap ≤ R.slots) (had : "[" ++ (newarray.typeOf aty).toString = ad)
    (k : ∀ T' h' b ka, Here p l e R s m args below meth c Z bytes maxL ret own nm h0 n0 ws EL kn T' h' vm0 (cells + 1) (slots + cap) → b = h.size → b < h'.size → Ext h h' → Arv Z h' b ka (newarray.typeOf aty) n [] (defaultValue (newarray.typeOf aty)) → Exa Z h' b ad → CHr Z EL vm0 h vm0 h' → Safe Z EL vm0 h' b → Go p.tables e below P (T'.setTop (mkF m pc' Ls (.ref b :: st)))) : Go p.tables e below P (T.setTop (mkF m pc Ls (.int n :: st))) := by
  obtain ⟨k0, locs, Y, N, eT, O, K, hx, hby, hml, hret, hlk, hown, hnm, hZ, hS, hk, hC, hEW, hKn, hsh⟩ := X
  subst hp
  obtain ⟨T', h', ka, Y', e', E', A', B', st'⟩ := newPE Y hx hZ w eT (g := mkF m pc Ls (.int n :: st)) rfl (hb hby hd) rfl hn hcap hb' hc hl had
  exact Go.go st' (k T' h' _ ka ⟨k0, locs, Y', N, e', O.ext E', K.ext E', hx, hby, hml, hret, hlk, hown, hnm, hZ, hS, Nat.le_trans hk E'.1, hC.trans (CHr.ext E' hC.1), hEW, hKn, hsh⟩ rfl A'.lt E' (Arv.new A' hn) B' (CHr.ext E' hC.1) (Safe.ext E' hC.1 (Safe.new (Nat.le_refl _))))
theorem o_newR {C ad : String} {index : Nat} {n : Int32} {cap : Nat} (X : Here p l e R s m args below meth c Z bytes maxL ret own nm h0 n0 ws EL kn T h vm0 cells slots) (w : (Cond.classLink own index C).before a0 Z = true) (w2 : (Cond.arrayOver (.object C)).before a0 Z = true) (hd : decode bytes pc = .ok (.anewarray index, 3)) (hp : pc + 3 = pc') (hn : ¬ n < 0) (hcap : n.toNatClampNeg ≤ cap) (hb' : cap * 8 ≤ 536870912) (hc : cells + 1 ≤ R.cells) (hl : slots + cap ≤ R.slots) (had : "[" ++ (FieldType.object C).toString = ad)
    (k : ∀ T' h' b ka, Here p l e R s m args below meth c Z bytes maxL ret own nm h0 n0 ws EL kn T' h' vm0 (cells + 1) (slots + cap) → b = h.size → b < h'.size → Ext h h' → Arv Z h' b ka (.object C) n [] .null → Ovr Z ka C → Exa Z h' b ad → CHr Z EL vm0 h vm0 h' → Safe Z EL vm0 h' b → Go p.tables e below P (T'.setTop (mkF m pc' Ls (.ref b :: st)))) : Go p.tables e below P (T.setTop (mkF m pc Ls (.int n :: st))) := by
  obtain ⟨k0, locs, Y, N, eT, O, K, hx, hby, hml, hret, hlk, hown, hnm, hZ, hS, hk, hC, hEW, hKn, hsh⟩ := X
  subst hp
  obtain ⟨T', h', ka, Y', e', E', A', B', V', st'⟩ := newRE Y hx hZ hown w w2 eT (g := mkF m pc Ls (.int n :: st)) rfl (hb hby hd) rfl hn hcap hb' hc hl had
  exact Go.go st' (k T' h' _ ka ⟨k0, locs, Y', N, e', O.ext E', K.ext E', hx, hby, hml, hret, hlk, hown, hnm, hZ, hS, Nat.le_trans hk E'.1, hC.trans (CHr.ext E' hC.1), hEW, hKn, hsh⟩ rfl A'.lt E' (Arv.new A' hn) V' B' (CHr.ext E' hC.1) (Safe.ext E' hC.1 (Safe.new (Nat.le_refl _))))
theorem oP {R0 O n d C : String} {index kk : Nat} {ty : FieldType} {a : Addr} {v v' old : Value} (X : Here p l e R s m args below meth c Z bytes maxL ret own nm h0 n0 ws EL kn T h vm0 cells slots) (w : (Cond.fieldLink own index R0 n d).before a0 Z = true) (via : Via Z R0 O n d) (F : Fld Z h a O n d old) (E : Exa Z h a C) (L : (Cond.lays C O n d).before a0 Z = true ∨ ((Cond.laysFinal C O n d).before a0 Z = true ∧ own = O ∧ nm = "<init>")) (wi : (Cond.instantiable C kk).before a0 Z = true) (hty : parseFieldDescriptor d = some ty) (hv : narrow ty v = v') (hf : fits ty v' = true) (hd : decode bytes pc = .ok (.putfield index, 3)) (hp : pc + 3 = pc') (hn0 : n0 ≤ a) (hws : a ∈ ws ∨ h0.size ≤ a) (hsf : Safe Z EL vm0 h a)
    (k : ∀ T' h', Here p l e R s m args below meth c Z bytes maxL ret own nm h0 n0 ws EL kn T' h' vm0 cells slots → Wr h h' a (RoadKit.slotOf Z O n d) v' → CHr Z EL vm0 h vm0 h' → Go p.tables e below P (T'.setTop (mkF m pc' Ls st))) : Go p.tables e below P (T.setTop (mkF m pc Ls (v :: .ref a :: st))) := by
  obtain ⟨k0, locs, Y, N, eT, O, K, hx, hby, hml, hret, hlk, hown, hnm, hZ, hS, hk, hC, hEW, hKn, hsh⟩ := X
  subst hp
  obtain ⟨T', h', Y', e', W', st'⟩ := putFN Y hx hZ hown w via eT F E (L.imp id fun q => ⟨q.1, q.2.1, hnm.trans q.2.2⟩) wi hty hv hf (g := mkF m pc Ls (v :: .ref a :: st)) rfl rfl (hb hby hd)
  exact Go.go st' (k T' h' ⟨k0, _, Y', Fr.snoc Y' N hn0, e', O.wr W' hn0, K.wr W' hws, hx, hby, hml, hret, hlk, hown, hnm, hZ, hS, by rw [W'.size]; exact hk, hC.trans (CHr.wr W' hsf hC.1), hEW, hKn, hsh⟩ W' (CHr.wr W' hsf hC.1))
theorem o_stC {a : Addr} {ka : ClassId} {n j : Int32} {x y : Int32} {i : Nat} {vs : List Value} {d : Value} (X : Here p l e R s m args below meth c Z bytes maxL ret own nm h0 n0 ws EL kn T h vm0 cells slots) (F : Arv Z h a ka .char n vs d) (hj : ¬ j < 0 ∧ j < n) (hi : j.toNatClampNeg = i) (hil : i < vs.length) (hv : nar .char x = y) (hd : decode bytes pc = .ok (.castore, 1)) (hp : pc + 1 = pc') (hn0 : n0 ≤ a) (hws : a ∈ ws ∨ h0.size ≤ a) (hsf : Safe Z EL vm0 h a)
    (k : ∀ T' h', Here p l e R s m args below meth c Z bytes maxL ret own nm h0 n0 ws EL kn T' h' vm0 cells slots → (∃ sl w, Wr h h' a sl w) → CHr Z EL vm0 h vm0 h' → Arv Z h' a ka .char n (vs.set i (.int y)) d → Go p.tables e below P (T'.setTop (mkF m pc' Ls st))) : Go p.tables e below P (T.setTop (mkF m pc Ls (.int x :: .int j :: .ref a :: st))) := by
  obtain ⟨k0, locs, Y, N, eT, O, K, hx, hby, hml, hret, hlk, hown, hnm, hZ, hS, hk, hC, hEW, hKn, hsh⟩ := X
  subst hp hv
  obtain ⟨cl, A, q1, S, q, H, G⟩ := F
  obtain ⟨T', h', Y', e', W', st'⟩ := RoadKit.stC Y hx hZ eT A (inb_of S hj) (g := mkF m pc Ls (.int x :: .int j :: .ref a :: st)) rfl rfl (hb hby hd)
  exact Go.go st' (k T' h' ⟨k0, _, Y', Fr.snoc Y' N hn0, e', O.wr W' hn0, K.wr W' hws, hx, hby, hml, hret, hlk, hown, hnm, hZ, hS, by rw [W'.size]; exact hk, hC.trans (CHr.wr W' hsf hC.1), hEW, hKn, hsh⟩ ⟨_, _, W'⟩ (CHr.wr W' hsf hC.1) (Arv.set A q1 S q H G (fits_nar_char _) W' i hi hil))
theorem o_stB {a : Addr} {ka : ClassId} {n j : Int32} {x y : Int32} {i : Nat} {vs : List Value} {d : Value} (X : Here p l e R s m args below meth c Z bytes maxL ret own nm h0 n0 ws EL kn T h vm0 cells slots) (F : Arv Z h a ka .byte n vs d) (hj : ¬ j < 0 ∧ j < n) (hi : j.toNatClampNeg = i) (hil : i < vs.length) (hv : nar .byte x = y) (hd : decode bytes pc = .ok (.bastore, 1)) (hp : pc + 1 = pc') (hn0 : n0 ≤ a) (hws : a ∈ ws ∨ h0.size ≤ a) (hsf : Safe Z EL vm0 h a)
    (k : ∀ T' h', Here p l e R s m args below meth c Z bytes maxL ret own nm h0 n0 ws EL kn T' h' vm0 cells slots → (∃ sl w, Wr h h' a sl w) → CHr Z EL vm0 h vm0 h' → Arv Z h' a ka .byte n (vs.set i (.int y)) d → Go p.tables e below P (T'.setTop (mkF m pc' Ls st))) : Go p.tables e below P (T.setTop (mkF m pc Ls (.int x :: .int j :: .ref a :: st))) := by
  obtain ⟨k0, locs, Y, N, eT, O, K, hx, hby, hml, hret, hlk, hown, hnm, hZ, hS, hk, hC, hEW, hKn, hsh⟩ := X
  subst hp hv
  obtain ⟨cl, A, q1, S, q, H, G⟩ := F
  obtain ⟨T', h', Y', e', W', st'⟩ := RoadKit.stB Y hx hZ eT A (inb_of S hj) (g := mkF m pc Ls (.int x :: .int j :: .ref a :: st)) rfl rfl (hb hby hd)
  exact Go.go st' (k T' h' ⟨k0, _, Y', Fr.snoc Y' N hn0, e', O.wr W' hn0, K.wr W' hws, hx, hby, hml, hret, hlk, hown, hnm, hZ, hS, by rw [W'.size]; exact hk, hC.trans (CHr.wr W' hsf hC.1), hEW, hKn, hsh⟩ ⟨_, _, W'⟩ (CHr.wr W' hsf hC.1) (Arv.set A q1 S q H G (fits_nar_byte _) W' i hi hil))
theorem o_stR {a : Addr} {ka : ClassId} {ty : FieldType} {n j : Int32} {v : Value} {i : Nat} {vs : List Value} {d : Value} (X : Here p l e R s m args below meth c Z bytes maxL ret own nm h0 n0 ws EL kn T h vm0 cells slots) (F : Arv Z h a ka ty n vs d) (hty : ty.isReference = true) (hSto : Sto Z h a v) (hfit : fits ty v = true) (hj : ¬ j < 0 ∧ j < n) (hi : j.toNatClampNeg = i) (hil : i < vs.length) (hd : decode bytes pc = .ok (.aastore, 1)) (hp : pc + 1 = pc') (hn0 : n0 ≤ a) (hws : a ∈ ws ∨ h0.size ≤ a) (hsf : Safe Z EL vm0 h a)
    (k : ∀ T' h', Here p l e R s m args below meth c Z bytes maxL ret own nm h0 n0 ws EL kn T' h' vm0 cells slots → (∃ sl w, Wr h h' a sl w) → CHr Z EL vm0 h vm0 h' → Arv Z h' a ka ty n (vs.set i v) d → Go p.tables e below P (T'.setTop (mkF m pc' Ls st))) : Go p.tables e below P (T.setTop (mkF m pc Ls (v :: .int j :: .ref a :: st))) := by
  obtain ⟨k0, locs, Y, N, eT, O, K, hx, hby, hml, hret, hlk, hown, hnm, hZ, hS, hk, hC, hEW, hKn, hsh⟩ := X
  subst hp
  obtain ⟨cl, A, q1, S, q, H, G⟩ := F
  obtain ⟨T', h', Y', e', W', st'⟩ := RoadKit.stR Y hx hZ eT A (inb_of S hj) hty hSto (g := mkF m pc Ls (v :: .int j :: .ref a :: st)) rfl rfl (hb hby hd)
  exact Go.go st' (k T' h' ⟨k0, _, Y', Fr.snoc Y' N hn0, e', O.wr W' hn0, K.wr W' hws, hx, hby, hml, hret, hlk, hown, hnm, hZ, hS, by rw [W'.size]; exact hk, hC.trans (CHr.wr W' hsf hC.1), hEW, hKn, hsh⟩ ⟨_, _, W'⟩ (CHr.wr W' hsf hC.1) (Arv.set A q1 S q H G hfit W' i hi hil))
theorem o_cp {index : Nat} {b a : Addr} {ka kb : ClassId} {ty ty' : FieldType} {z z' sp dp nn : Int32} {vs vd us vr : List Value} {dv dd : Value} {W : Nat} (X : Here p l e R s m args below meth c Z bytes maxL ret own nm h0 n0 ws EL kn T h vm0 cells slots) (w1 : (Cond.methodLink own index Jvm.Stand.acN).before a0 Z = true) (w2 : (Cond.native Jvm.Stand.acN).before a0 Z = true) (w3 : (Cond.static Jvm.Stand.acN).before a0 Z = true) (w4 : (Cond.initialized "java/lang/System").before a0 Z = true) (A : Arv Z h b kb ty z vs dv) (B : Arv Z h a ka ty' z' vd dd) (hty : (ty = ty' ∧ refKind ty = false) ∨ (refKind ty = true ∧ refKind ty' = true ∧ StoL Z h a us))
    (h1 : ¬ sp < 0) (h2 : ¬ dp < 0) (h3 : ¬ nn < 0) (h4 : sp.toNatClampNeg + nn.toNatClampNeg ≤ z.toNatClampNeg) (h5 : dp.toNatClampNeg + nn.toNatClampNeg ≤ z'.toNatClampNeg) (hus : us = (List.range nn.toNatClampNeg).map fun i => vs.getD (sp.toNatClampNeg + i) dv) (hl : dp.toNatClampNeg + nn.toNatClampNeg ≤ vd.length) (hvr : vd.take dp.toNatClampNeg ++ us ++ vd.drop (dp.toNatClampNeg + nn.toNatClampNeg) = vr)
    (hd : decode bytes pc = .ok (.invokestatic index, 3)) (hp : pc + 3 = pc') (hsz : Ls.size = maxL) (hf : 1 ≤ R.frames) (hW : (rest.map fun v => v.category).sum ≤ W) (hlo : W + (nativeFrameWords "java/lang/System" "arraycopy" 5 + 11) ≤ R.locals) (hn0 : n0 ≤ a) (hws : a ∈ ws ∨ h0.size ≤ a) (hsf : Safe Z EL vm0 h a)
    (k : ∀ T' h', Here p l e R s m args below meth c Z bytes maxL ret own nm h0 n0 ws EL kn T' h' vm0 cells slots → Keep h h' [a] → CHr Z EL vm0 h vm0 h' → Arv Z h' a ka ty' z' vr dd → Go p.tables e below P (T'.setTop (mkF m pc' Ls rest))) : Go p.tables e below P (T.setTop (mkF m pc Ls (.int nn :: .int dp :: .ref a :: .int sp :: .ref b :: rest))) := by
  obtain ⟨k0, locs, Y, N, eT, O, K, hx, hby, hml, hret, hlk, hown, hnm, hZ, hS, hk, hC, hEW, hKn, hsh⟩ := X
  subst hp hvr
  obtain ⟨T', h', L', Y', e', N', K', A', st'⟩ := cpA Y hx hZ hown w1 w2 w3 w4 eT A B hty h1 h2 h3 h4 h5 hus hl N hn0 (g := mkF m pc Ls (.int nn :: .int dp :: .ref a :: .int sp :: .ref b :: rest)) rfl (by rw [hml]; exact hsz) rfl (hb hby hd) hf (W := W) (by show 2 * 0 + _ ≤ _; omega) hlo
  exact Go.go st' (k T' h' ⟨k0, L', Y', N', e', O.keep K' (allS hn0 all0), K.trans K' (allS hws all0), hx, hby, hml, hret, hlk, hown, hnm, hZ, hS, Nat.le_trans hk K'.1, hC.trans (CHr.keep K' (allS hsf all0) hC.1), hEW, hKn, hsh⟩ K' (CHr.keep K' (allS hsf all0) hC.1) A')
theorem oz  {Po : Option Value → Heap → Vm → Prop} (X : Here p l e R s m args below meth c Z bytes maxL ret own nm h0 n0 ws EL kn T h vm0 cells slots) (hd : decode bytes pc = .ok (.return_, 1)) (hr0 : ret = none) (hc : cells ≤ R.cells) (hs : slots ≤ R.slots) (hQ : ∀ vm', CHr Z EL vm0 h vm' h → Po (none) h vm') : Go p.tables e below (PO s R h0 n0 ws Z EL Po) (T.setTop (mkF m pc Ls [])) := by
  obtain ⟨k0, locs, Y, N, eT, O, K, hx, hby, hml, hret, hlk, hown, hnm, hZ, hS, hk, hC, hEW, hKn, hsh⟩ := X
  obtain ⟨fs, hr, hrun, hended, hW, hsame⟩ := Y.leave (v := none) (fun _ => rfl) hlk
  have hE := hS.ended (U := T.setFrames fs) hW (by show k0 ≤ T.heap.size; rw [eT]; exact hk) (hsame.mono hc hs)
  obtain ⟨a1, hew⟩ := hEW
  have hC1 : CHr Z EL vm0 h T.vm h := CHv.at Y hZ hew hC.1
  have hC2 : CHr Z EL s.vm s.heap T.vm T.heap := by
    rw [hsh, eT]
    exact hC.trans hC1
  refine ⟨_, _, ?_, hrun, hended, _, _, rfl, ⟨N, ?_, ?_⟩, hC2, ⟨_, rfl⟩, hE.1, hE.2.1, hE.2.2⟩
  · exact Y.returnOut hx (hret.trans hr0) (hb hby hd) hr
  · show Keep h0 T.heap ws
    rw [eT]; exact K
  · show Po _ T.heap T.vm
    rw [eT]; exact hQ _ hC1
theorem o_iret {z : Int32} {Po : Option Value → Heap → Vm → Prop} (X : Here p l e R s m args below meth c Z bytes maxL ret own nm h0 n0 ws EL kn T h vm0 cells slots) (hd : decode bytes pc = .ok (.ireturn, 1)) (hr0 : ret = some .int) (hc : cells ≤ R.cells) (hs : slots ≤ R.slots) (hQ : ∀ vm', CHr Z EL vm0 h vm' h → Po (some (.int z)) h vm') : Go p.tables e below (PO s R h0 n0 ws Z EL Po) (T.setTop (mkF m pc Ls (.int z :: rest))) := by
  obtain ⟨k0, locs, Y, N, eT, O, K, hx, hby, hml, hret, hlk, hown, hnm, hZ, hS, hk, hC, hEW, hKn, hsh⟩ := X
  obtain ⟨fs, hr, hrun, hended, hW, hsame⟩ := Y.leave (v := some (.int z)) (fun h => by rw [hret, hr0] at h; cases h) hlk
  have hE := hS.ended (U := T.setFrames fs) hW (by show k0 ≤ T.heap.size; rw [eT]; exact hk) (hsame.mono hc hs)
  obtain ⟨a1, hew⟩ := hEW
  have hC1 : CHr Z EL vm0 h T.vm h := CHv.at Y hZ hew hC.1
  have hC2 : CHr Z EL s.vm s.heap T.vm T.heap := by
    rw [hsh, eT]
    exact hC.trans hC1
  refine ⟨_, _, ?_, hrun, hended, _, _, rfl, ⟨N, ?_, ?_⟩, hC2, ⟨_, rfl⟩, hE.1, hE.2.1, hE.2.2⟩
  · exact retOut Y hx (hret.trans hr0) rfl (Or.inl ⟨rfl, Or.inl rfl, _, rfl⟩) (hb hby hd) hr
  · show Keep h0 T.heap ws
    rw [eT]; exact K
  · show Po _ T.heap T.vm
    rw [eT]; exact hQ _ hC1
theorem o_nret {z y : Int32} {t : FieldType} {Po : Option Value → Heap → Vm → Prop} (X : Here p l e R s m args below meth c Z bytes maxL ret own nm h0 n0 ws EL kn T h vm0 cells slots) (hd : decode bytes pc = .ok (.ireturn, 1)) (hr0 : ret = some t) (hv : nar t z = y) (ht : t = .boolean ∨ t = .byte ∨ t = .char ∨ t = .short) (hc : cells ≤ R.cells) (hs : slots ≤ R.slots) (hQ : ∀ vm', CHr Z EL vm0 h vm' h → Po (some (.int y)) h vm') : Go p.tables e below (PO s R h0 n0 ws Z EL Po) (T.setTop (mkF m pc Ls (.int z :: rest))) := by
  obtain ⟨k0, locs, Y, N, eT, O, K, hx, hby, hml, hret, hlk, hown, hnm, hZ, hS, hk, hC, hEW, hKn, hsh⟩ := X
  obtain ⟨fs, hr, hrun, hended, hW, hsame⟩ := Y.leave (v := some (.int y)) (fun h => by rw [hret, hr0] at h; cases h) hlk
  have hE := hS.ended (U := T.setFrames fs) hW (by show k0 ≤ T.heap.size; rw [eT]; exact hk) (hsame.mono hc hs)
  obtain ⟨a1, hew⟩ := hEW
  have hC1 : CHr Z EL vm0 h T.vm h := CHv.at Y hZ hew hC.1
  have hC2 : CHr Z EL s.vm s.heap T.vm T.heap := by
    rw [hsh, eT]
    exact hC.trans hC1
  refine ⟨_, _, ?_, hrun, hended, _, _, rfl, ⟨N, ?_, ?_⟩, hC2, ⟨_, rfl⟩, hE.1, hE.2.1, hE.2.2⟩
  · subst hv; exact retN Y hx (hret.trans hr0) ht (hb hby hd) hr
  · show Keep h0 T.heap ws
    rw [eT]; exact K
  · show Po _ T.heap T.vm
    rw [eT]; exact hQ _ hC1
theorem oR {w : Value} {t : FieldType} {Po : Option Value → Heap → Vm → Prop} (X : Here p l e R s m args below meth c Z bytes maxL ret own nm h0 n0 ws EL kn T h vm0 cells slots) (hd : decode bytes pc = .ok (.areturn, 1)) (hr0 : ret = some t) (ht : t.isReference = true) (hw : w.isRef = true) (hc : cells ≤ R.cells) (hs : slots ≤ R.slots) (hQ : ∀ vm', CHr Z EL vm0 h vm' h → Po (some w) h vm') : Go p.tables e below (PO s R h0 n0 ws Z EL Po) (T.setTop (mkF m pc Ls (w :: rest))) := by
  obtain ⟨k0, locs, Y, N, eT, O, K, hx, hby, hml, hret, hlk, hown, hnm, hZ, hS, hk, hC, hEW, hKn, hsh⟩ := X
  obtain ⟨fs, hr, hrun, hended, hW, hsame⟩ := Y.leave (v := some w) (fun h => by rw [hret, hr0] at h; cases h) hlk
  have hE := hS.ended (U := T.setFrames fs) hW (by show k0 ≤ T.heap.size; rw [eT]; exact hk) (hsame.mono hc hs)
  obtain ⟨a1, hew⟩ := hEW
  have hC1 : CHr Z EL vm0 h T.vm h := CHv.at Y hZ hew hC.1
  have hC2 : CHr Z EL s.vm s.heap T.vm T.heap := by
    rw [hsh, eT]
    exact hC.trans hC1
  refine ⟨_, _, ?_, hrun, hended, _, _, rfl, ⟨N, ?_, ?_⟩, hC2, ⟨_, rfl⟩, hE.1, hE.2.1, hE.2.2⟩
  · exact retOut Y hx (hret.trans hr0) (by rcases ref_cases hw with rfl | ⟨a, rfl⟩ <;> cases t <;> first | rfl | cases ht) (Or.inr (Or.inr (Or.inr (Or.inr ⟨rfl, ht, hw⟩)))) (hb hby hd) hr
  · show Keep h0 T.heap ws
    rw [eT]; exact K
  · show Po _ T.heap T.vm
    rw [eT]; exact hQ _ hC1
theorem o_static {index : Nat} {y : MethodName} {bytes' : ByteArray} {maxL' : Nat} {ret' : Option FieldType} {W kc ks : Nat} {Q : Option Value → Heap → Vm → List Loc → Prop} {ws' : List Addr} {argsL : List Value} (X : Here p l e R s m args below meth c Z bytes maxL ret own nm h0 n0 ws EL kn T h vm0 cells slots) (w1 : (Cond.methodLink own index y).before a0 Z = true) (w2 : (Cond.static y).before a0 Z = true) (w3 : (Cond.initialized y.cls).before a0 Z = true) (w4 : (Cond.code y bytes' maxL' ret').before a0 Z = true) (hy : y.cls ≠ "java/lang/invoke/MethodHandle" ∧ y.cls ≠ "java/lang/invoke/VarHandle") (hlen : ∀ sig, parseMethodDescriptor y.desc = some sig → argsL.length = sig.parameters.length) (hK : BackS l R p e below (s.setVm vm0) args y 3 W (fun A a => a = argsL.toArray ∧ A.U.heap = h ∧ A.cells + kc ≤ R.cells ∧ A.slots + ks ≤ R.slots) (fun A _ v B => ∃ L, Q v B.U.heap B.U.vm L ∧ B.locs = A.locs ++ L ∧ B.cells = A.cells + kc ∧ B.slots = A.slots + ks ∧ CHr Z EL vm0 h B.U.vm B.U.heap)) (hd : decode bytes pc = .ok (.invokestatic index, 3)) (hp : pc + 3 = pc') (hsz : Ls.size = maxL) (hstk : st = argsL.reverse ++ rest) (hW : (rest.map fun v => v.category).sum ≤ W) (hc : cells + kc ≤ R.cells) (hs : slots + ks ≤ R.slots) (hQ : ∀ v h' vm' L, Q v h' vm' L → Fr n0 L ∧ Keep h h' ws') (hws : ∀ x ∈ ws', n0 ≤ x ∧ (x ∈ ws ∨ h0.size ≤ x))
    (k : ∀ v T' h' L vm', Here p l e R s m args below meth c Z bytes maxL ret own nm h0 n0 ws EL kn T' h' vm' (cells + kc) (slots + ks) → Q v h' vm' L → Keep h h' ws' → CHr Z EL vm0 h vm' h' → Go p.tables e below P (T'.setTop (mkF m pc' Ls (v.toList ++ rest)))) : Go p.tables e below P (T.setTop (mkF m pc Ls st)) := by
  obtain ⟨k0, locs, Y, N, eT, O, K, hx, hby, hml, hret, hlk, hown, hnm, hZ, hS, hk, hC, hEW, hKn, hsh⟩ := X
  subst hp hstk
  obtain ⟨v, vm₁, ⟨T', L', k', n'⟩, -, X', hS', hg', ⟨L, hq, l', y', z', hC'⟩, st'⟩ := RoadKit.callSS Y hx hown (mvT hZ w1) (mvT hZ w2) (mvT hZ w3) (mvT hZ w4) hy hK (g := mkF m pc Ls (argsL.reverse ++ rest)) rfl (by rw [hml]; exact hsz) (argsL := argsL) (rest := rest) hlen rfl (by show 2 * 0 + _ ≤ _; omega) (hb hby hd) (fun _ _ => ⟨rfl, eT, hc, hs⟩)
  dsimp only [Pt.U, Pt.locs, Pt.cells, Pt.slots] at X' hS' hg' l' y' z' st' hq hC'
  subst l' y' z'
  obtain ⟨f1, f2⟩ := hQ _ _ _ _ hq
  have hZ' : Z.Warmed39 T'.vm := State.Warmed39.trans (t := s.setVm vm0) hZ hS'.1
  have hown' : T'.vm.findClass own = some m.cls := by
    have q := hS'.1.alike.findClass (name := own)
    exact (q _).trans hown
  exact Go.go (fun t q => st'.trans q) (k v T' _ L T'.vm ⟨T'.heap.size, _, X', N.app f1, rfl, O.keep f2 (fun x hx => (hws x hx).1), K.trans f2 (fun x hx => (hws x hx).2), hx, hby, hml, hret, hlk, hown', hnm, hZ', hS.trans hS' (Nat.le_trans hk (by rw [← eT]; exact hg')), Nat.le_refl _, hC.trans hC', hEW, KnP.alike hKn hS'.1.alike, hsh⟩ hq f2 hC')
theorem o_special {index : Nat} {y : MethodName} {bytes' : ByteArray} {maxL' : Nat} {b : Addr} {W kc ks : Nat} {Q : Option Value → Heap → Vm → List Loc → Prop} {ws' : List Addr} {argsL : List Value} (X : Here p l e R s m args below meth c Z bytes maxL ret own nm h0 n0 ws EL kn T h vm0 cells slots) (hy1 : y.name = "<init>") (w1 : (Cond.methodLink own index y).before a0 Z = true) (w2 : (Cond.instanceMethod y).before a0 Z = true) (w4 : (Cond.code y bytes' maxL' none).before a0 Z = true) (hy : y.cls ≠ "java/lang/invoke/MethodHandle" ∧ y.cls ≠ "java/lang/invoke/VarHandle") (hlen : ∀ sig, parseMethodDescriptor y.desc = some sig → argsL.length = sig.parameters.length) (hK : BackS l R p e below (s.setVm vm0) args y 3 W (fun A a => a = (.ref b :: argsL).toArray ∧ A.U.heap = h ∧ A.cells + kc ≤ R.cells ∧ A.slots + ks ≤ R.slots) (fun A _ v B => ∃ L, Q v B.U.heap B.U.vm L ∧ B.locs = A.locs ++ L ∧ B.cells = A.cells + kc ∧ B.slots = A.slots + ks ∧ CHr Z EL vm0 h B.U.vm B.U.heap)) (hd : decode bytes pc = .ok (.invokespecial index, 3)) (hp : pc + 3 = pc') (hsz : Ls.size = maxL) (hstk : st = argsL.reverse ++ .ref b :: rest) (hW : (rest.map fun v => v.category).sum ≤ W) (hc : cells + kc ≤ R.cells) (hs : slots + ks ≤ R.slots) (hQ : ∀ v h' vm' L, Q v h' vm' L → Fr n0 L ∧ Keep h h' ws') (hws : ∀ x ∈ ws', n0 ≤ x ∧ (x ∈ ws ∨ h0.size ≤ x))
    (k : ∀ v T' h' L vm', Here p l e R s m args below meth c Z bytes maxL ret own nm h0 n0 ws EL kn T' h' vm' (cells + kc) (slots + ks) → Q v h' vm' L → Keep h h' ws' → CHr Z EL vm0 h vm' h' → Go p.tables e below P (T'.setTop (mkF m pc' Ls (v.toList ++ rest)))) : Go p.tables e below P (T.setTop (mkF m pc Ls st)) := by
  obtain ⟨k0, locs, Y, N, eT, O, K, hx, hby, hml, hret, hlk, hown, hnm, hZ, hS, hk, hC, hEW, hKn, hsh⟩ := X
  subst hp hstk
  obtain ⟨v, vm₁, ⟨T', L', k', n'⟩, -, X', hS', hg', ⟨L, hq, l', y', z', hC'⟩, st'⟩ := Y.specialBackS hx hy1 hown (mvT hZ w1) (mvT hZ w2) (mvT hZ w4) hy hK (g := mkF m pc Ls (argsL.reverse ++ .ref b :: rest)) rfl (by rw [hml]; exact hsz) (Steps.refl _) (a := b) (argsL := argsL) (rest := rest) hlen rfl (by show 2 * 0 + _ ≤ _; omega) (hb hby hd) (fun _ _ => ⟨rfl, eT, hc, hs⟩)
  dsimp only [Pt.U, Pt.locs, Pt.cells, Pt.slots] at X' hS' hg' l' y' z' st' hq hC'
  subst l' y' z'
  obtain ⟨f1, f2⟩ := hQ _ _ _ _ hq
  have hZ' : Z.Warmed39 T'.vm := State.Warmed39.trans (t := s.setVm vm0) hZ hS'.1
  have hown' : T'.vm.findClass own = some m.cls := by
    have q := hS'.1.alike.findClass (name := own)
    exact (q _).trans hown
  exact Go.go (fun t q => st'.trans q) (k v T' _ L T'.vm ⟨T'.heap.size, _, X', N.app f1, rfl, O.keep f2 (fun x hx => (hws x hx).1), K.trans f2 (fun x hx => (hws x hx).2), hx, hby, hml, hret, hlk, hown', hnm, hZ', hS.trans hS' (Nat.le_trans hk (by rw [← eT]; exact hg')), Nat.le_refl _, hC.trans hC', hEW, KnP.alike hKn hS'.1.alike, hsh⟩ hq f2 hC')
theorem o_virtual {index : Nat} {C : String} {y z : MethodName} {b : Addr} {W kc ks : Nat} {Q : Option Value → Heap → Vm → List Loc → Prop} {ws' : List Addr} {argsL : List Value} (X : Here p l e R s m args below meth c Z bytes maxL ret own nm h0 n0 ws EL kn T h vm0 cells slots) (E : Exa Z h b C) (w1 : (Cond.methodLink own index y).before a0 Z = true) (w2 : (Cond.declares y).before a0 Z = true) (w3 : (Cond.selects C y z).before a0 Z = true) (w4 : (Cond.instanceMethod z).before a0 Z = true) (nf : ∀ s' : State, Z.Warmed39 s'.vm → NotFace s' y) (hy : y.cls ≠ "java/lang/invoke/MethodHandle" ∧ y.cls ≠ "java/lang/invoke/VarHandle") (hlen : ∀ sig, parseMethodDescriptor y.desc = some sig → argsL.length = sig.parameters.length) (hK : BackS l R p e below (s.setVm vm0) args z 3 W (fun A a => a = (.ref b :: argsL).toArray ∧ A.U.heap = h ∧ A.cells + kc ≤ R.cells ∧ A.slots + ks ≤ R.slots) (fun A _ v B => ∃ L, Q v B.U.heap B.U.vm L ∧ B.locs = A.locs ++ L ∧ B.cells = A.cells + kc ∧ B.slots = A.slots + ks ∧ CHr Z EL vm0 h B.U.vm B.U.heap)) (hd : decode bytes pc = .ok (.invokevirtual index, 3)) (hp : pc + 3 = pc') (hsz : Ls.size = maxL) (hstk : st = argsL.reverse ++ .ref b :: rest) (hW : (rest.map fun v => v.category).sum ≤ W) (hc : cells + kc ≤ R.cells) (hs : slots + ks ≤ R.slots) (hQ : ∀ v h' vm' L, Q v h' vm' L → Fr n0 L ∧ Keep h h' ws') (hws : ∀ x ∈ ws', n0 ≤ x ∧ (x ∈ ws ∨ h0.size ≤ x))
    (k : ∀ v T' h' L vm', Here p l e R s m args below meth c Z bytes maxL ret own nm h0 n0 ws EL kn T' h' vm' (cells + kc) (slots + ks) → Q v h' vm' L → Keep h h' ws' → CHr Z EL vm0 h vm' h' → Go p.tables e below P (T'.setTop (mkF m pc' Ls (v.toList ++ rest)))) : Go p.tables e below P (T.setTop (mkF m pc Ls st)) := by
  obtain ⟨k0, locs, Y, N, eT, O, K, hx, hby, hml, hret, hlk, hown, hnm, hZ, hS, hk, hC, hEW, hKn, hsh⟩ := X
  obtain ⟨cq, kq, qa, qb, qc⟩ := isOf (s := s.setVm vm0) hZ eT E
  subst hp hstk
  obtain ⟨v, vm₁, ⟨T', L', k', n'⟩, -, X', hS', hg', ⟨L, hq, l', y', z', hC'⟩, st'⟩ := (Y.virtualBackS hx (y := y) (z := z) hown (mvT hZ w1) (mvT hZ w2) (nf _ hZ) (mvT hZ w3) (mvT hZ w4) hy hK qa qc (g := mkF m pc Ls (argsL.reverse ++ .ref b :: rest)) rfl (by rw [hml]; exact hsz) (Steps.refl _) (argsL := argsL) (rest := rest) hlen rfl (by show 2 * 0 + _ ≤ _; omega) (hb hby hd) (fun _ _ => ⟨rfl, eT, hc, hs⟩))
  dsimp only [Pt.U, Pt.locs, Pt.cells, Pt.slots] at X' hS' hg' l' y' z' st' hq hC'
  subst l' y' z'
  obtain ⟨f1, f2⟩ := hQ _ _ _ _ hq
  have hZ' : Z.Warmed39 T'.vm := State.Warmed39.trans (t := s.setVm vm0) hZ hS'.1
  have hown' : T'.vm.findClass own = some m.cls := by
    have q := hS'.1.alike.findClass (name := own)
    exact (q _).trans hown
  exact Go.go (fun t q => st'.trans q) (k v T' _ L T'.vm ⟨T'.heap.size, _, X', N.app f1, rfl, O.keep f2 (fun x hx => (hws x hx).1), K.trans f2 (fun x hx => (hws x hx).2), hx, hby, hml, hret, hlk, hown', hnm, hZ', hS.trans hS' (Nat.le_trans hk (by rw [← eT]; exact hg')), Nat.le_refl _, hC.trans hC', hEW, KnP.alike hKn hS'.1.alike, hsh⟩ hq f2 hC')
theorem o_iface {index count : Nat} {C : String} {y z : MethodName} {b : Addr} {W kc ks : Nat} {Q : Option Value → Heap → Vm → List Loc → Prop} {ws' : List Addr} {argsL : List Value} (X : Here p l e R s m args below meth c Z bytes maxL ret own nm h0 n0 ws EL kn T h vm0 cells slots) (E : Exa Z h b C) (w1 : (Cond.methodLink own index y).before a0 Z = true) (w2 : (Cond.declares y).before a0 Z = true) (w3 : (Cond.interfaceMethod y.cls y.cls y.name y.desc).before a0 Z = true) (w4 : (Cond.selects C y z).before a0 Z = true) (w5 : (Cond.instanceMethod z).before a0 Z = true) (w6 : (Cond.publicMethod z).before a0 Z = true) (w7 : (Cond.unhidden C y.name y.desc).before a0 Z = true) (w8 : (Cond.castable C y.cls).before a0 Z = true) (hd3 : ((Cond.interfaceMethod y.cls y.cls y.name y.desc).onTables && (Cond.interfaceMethod y.cls y.cls y.name y.desc).keepsFace) = true) (hy : y.cls ≠ "java/lang/invoke/MethodHandle" ∧ y.cls ≠ "java/lang/invoke/VarHandle") (hlen : ∀ sig, parseMethodDescriptor y.desc = some sig → argsL.length = sig.parameters.length) (hK : BackS l R p e below (s.setVm vm0) args z 5 W (fun A a => a = (.ref b :: argsL).toArray ∧ A.U.heap = h ∧ A.cells + kc ≤ R.cells ∧ A.slots + ks ≤ R.slots) (fun A _ v B => ∃ L, Q v B.U.heap B.U.vm L ∧ B.locs = A.locs ++ L ∧ B.cells = A.cells + kc ∧ B.slots = A.slots + ks ∧ CHr Z EL vm0 h B.U.vm B.U.heap)) (hd : decode bytes pc = .ok (.invokeinterface index count, 5)) (hp : pc + 5 = pc') (hsz : Ls.size = maxL) (hstk : st = argsL.reverse ++ .ref b :: rest) (hW : (rest.map fun v => v.category).sum ≤ W) (hc : cells + kc ≤ R.cells) (hs : slots + ks ≤ R.slots) (hQ : ∀ v h' vm' L, Q v h' vm' L → Fr n0 L ∧ Keep h h' ws') (hws : ∀ x ∈ ws', n0 ≤ x ∧ (x ∈ ws ∨ h0.size ≤ x))
    (k : ∀ v T' h' L vm', Here p l e R s m args below meth c Z bytes maxL ret own nm h0 n0 ws EL kn T' h' vm' (cells + kc) (slots + ks) → Q v h' vm' L → Keep h h' ws' → CHr Z EL vm0 h vm' h' → Go p.tables e below P (T'.setTop (mkF m pc' Ls (v.toList ++ rest)))) : Go p.tables e below P (T.setTop (mkF m pc Ls st)) := by
  obtain ⟨k0, locs, Y, N, eT, O, K, hx, hby, hml, hret, hlk, hown, hnm, hZ, hS, hk, hC, hEW, hKn, hsh⟩ := X
  obtain ⟨cq, kq, qa, qb, qc⟩ := isOf (s := s.setVm vm0) hZ eT E
  subst hp hstk
  obtain ⟨v, vm₁, ⟨T', L', k', n'⟩, -, X', hS', hg', ⟨L, hq, l', y', z', hC'⟩, st'⟩ := (Y.interfaceBackS hx (xi := y) (y := z) hown (mvT hZ w1) (mvT hZ w2) (mvT hZ w3 hd3) (mvT hZ w4) (mvT hZ w5) (mvT hZ w6) (mvT hZ w7) (mvT hZ w8) hy hK qa qb qc (g := mkF m pc Ls (argsL.reverse ++ .ref b :: rest)) rfl (by rw [hml]; exact hsz) (Steps.refl _) (argsL := argsL) (rest := rest) hlen rfl (by show 2 * 0 + _ ≤ _; omega) (hb hby hd) (fun _ _ => ⟨rfl, eT, hc, hs⟩))
  dsimp only [Pt.U, Pt.locs, Pt.cells, Pt.slots] at X' hS' hg' l' y' z' st' hq hC'
  subst l' y' z'
  obtain ⟨f1, f2⟩ := hQ _ _ _ _ hq
  have hZ' : Z.Warmed39 T'.vm := State.Warmed39.trans (t := s.setVm vm0) hZ hS'.1
  have hown' : T'.vm.findClass own = some m.cls := by
    have q := hS'.1.alike.findClass (name := own)
    exact (q _).trans hown
  exact Go.go (fun t q => st'.trans q) (k v T' _ L T'.vm ⟨T'.heap.size, _, X', N.app f1, rfl, O.keep f2 (fun x hx => (hws x hx).1), K.trans f2 (fun x hx => (hws x hx).2), hx, hby, hml, hret, hlk, hown', hnm, hZ', hS.trans hS' (Nat.le_trans hk (by rw [← eT]; exact hg')), Nat.le_refl _, hC.trans hC', hEW, KnP.alike hKn hS'.1.alike, hsh⟩ hq f2 hC')
theorem o_super {index : Nat} {y : MethodName} {bytes' : ByteArray} {maxL' : Nat} {ret' : Option FieldType} {C : String} {b : Addr} {W kc ks : Nat} {Q : Option Value → Heap → Vm → List Loc → Prop} {ws' : List Addr} {argsL : List Value} (X : Here p l e R s m args below meth c Z bytes maxL ret own nm h0 n0 ws EL kn T h vm0 cells slots) (E : Exa Z h b C) (w1 : (Cond.methodLink own index y).before a0 Z = true) (w2 : (Cond.sameMethod y.cls y.cls y.name y.desc).before a0 Z = true) (w3 : (Cond.instanceMethod y).before a0 Z = true) (w5 : (Cond.superclass own y.cls).before a0 Z = true) (hni : y.name ≠ "<init>") (w4 : (Cond.code y bytes' maxL' ret').before a0 Z = true) (hlen : ∀ sig, parseMethodDescriptor y.desc = some sig → argsL.length = sig.parameters.length) (hK : BackS l R p e below (s.setVm vm0) args y 3 W (fun A a => a = (.ref b :: argsL).toArray ∧ A.U.heap = h ∧ A.cells + kc ≤ R.cells ∧ A.slots + ks ≤ R.slots) (fun A _ v B => ∃ L, Q v B.U.heap B.U.vm L ∧ B.locs = A.locs ++ L ∧ B.cells = A.cells + kc ∧ B.slots = A.slots + ks ∧ CHr Z EL vm0 h B.U.vm B.U.heap)) (hd : decode bytes pc = .ok (.invokespecial index, 3)) (hp : pc + 3 = pc') (hsz : Ls.size = maxL) (hstk : st = argsL.reverse ++ .ref b :: rest) (hW : (rest.map fun v => v.category).sum ≤ W) (hc : cells + kc ≤ R.cells) (hs : slots + ks ≤ R.slots) (hQ : ∀ v h' vm' L, Q v h' vm' L → Fr n0 L ∧ Keep h h' ws') (hws : ∀ x ∈ ws', n0 ≤ x ∧ (x ∈ ws ∨ h0.size ≤ x))
    (k : ∀ v T' h' L vm', Here p l e R s m args below meth c Z bytes maxL ret own nm h0 n0 ws EL kn T' h' vm' (cells + kc) (slots + ks) → Q v h' vm' L → Keep h h' ws' → CHr Z EL vm0 h vm' h' → Go p.tables e below P (T'.setTop (mkF m pc' Ls (v.toList ++ rest)))) : Go p.tables e below P (T.setTop (mkF m pc Ls st)) := by
  obtain ⟨k0, locs, Y, N, eT, O, K, hx, hby, hml, hret, hlk, hown, hnm, hZ, hS, hk, hC, hEW, hKn, hsh⟩ := X
  subst hp hstk
  obtain ⟨v, vm₁, ⟨T', L', k', n'⟩, -, X', hS', hg', ⟨L, hq, l', y', z', hC'⟩, st'⟩ := superBackS Y hx hZ hown w1 w2 w3 w5 hni hK eT (Ins.self E) (g := mkF m pc Ls (argsL.reverse ++ .ref b :: rest)) rfl (by rw [hml]; exact hsz) w4 (argsL := argsL) (rest := rest) hlen rfl (by show 2 * 0 + _ ≤ _; omega) (hb hby hd) (fun _ _ => ⟨rfl, eT, hc, hs⟩)
  dsimp only [Pt.U, Pt.locs, Pt.cells, Pt.slots] at X' hS' hg' l' y' z' st' hq hC'
  subst l' y' z'
  obtain ⟨f1, f2⟩ := hQ _ _ _ _ hq
  have hZ' : Z.Warmed39 T'.vm := State.Warmed39.trans (t := s.setVm vm0) hZ hS'.1
  have hown' : T'.vm.findClass own = some m.cls := by
    have q := hS'.1.alike.findClass (name := own)
    exact (q _).trans hown
  exact Go.go (fun t q => st'.trans q) (k v T' _ L T'.vm ⟨T'.heap.size, _, X', N.app f1, rfl, O.keep f2 (fun x hx => (hws x hx).1), K.trans f2 (fun x hx => (hws x hx).2), hx, hby, hml, hret, hlk, hown', hnm, hZ', hS.trans hS' (Nat.le_trans hk (by rw [← eT]; exact hg')), Nat.le_refl _, hC.trans hC', hEW, KnP.alike hKn hS'.1.alike, hsh⟩ hq f2 hC')
theorem o_ifaceUp {index count : Nat} {C J : String} {y z : MethodName} {b : Addr} {W kc ks : Nat} {Q : Option Value → Heap → Vm → List Loc → Prop} {ws' : List Addr} {argsL : List Value} (X : Here p l e R s m args below meth c Z bytes maxL ret own nm h0 n0 ws EL kn T h vm0 cells slots) (E : Exa Z h b C) (w1 : (Cond.methodLink own index y).before a0 Z = true) (w2 : (Cond.declares ⟨J, y.name, y.desc⟩).before a0 Z = true) (w3 : (Cond.interfaceMethod y.cls J y.name y.desc).before a0 Z = true) (hxo : y.cls ≠ J) (w4 : (Cond.selects C y z).before a0 Z = true) (w5 : (Cond.instanceMethod z).before a0 Z = true) (w6 : (Cond.publicMethod z).before a0 Z = true) (w7 : (Cond.unhidden C y.name y.desc).before a0 Z = true) (w8 : (Cond.castable C y.cls).before a0 Z = true) (hcl : y.name ≠ "clone") (hy : y.cls ≠ "java/lang/invoke/MethodHandle" ∧ y.cls ≠ "java/lang/invoke/VarHandle") (hlen : ∀ sig, parseMethodDescriptor y.desc = some sig → argsL.length = sig.parameters.length) (hK : BackS l R p e below (s.setVm vm0) args z 5 W (fun A a => a = (.ref b :: argsL).toArray ∧ A.U.heap = h ∧ A.cells + kc ≤ R.cells ∧ A.slots + ks ≤ R.slots) (fun A _ v B => ∃ L, Q v B.U.heap B.U.vm L ∧ B.locs = A.locs ++ L ∧ B.cells = A.cells + kc ∧ B.slots = A.slots + ks ∧ CHr Z EL vm0 h B.U.vm B.U.heap)) (hd : decode bytes pc = .ok (.invokeinterface index count, 5)) (hp : pc + 5 = pc') (hsz : Ls.size = maxL) (hstk : st = argsL.reverse ++ .ref b :: rest) (hW : (rest.map fun v => v.category).sum ≤ W) (hc : cells + kc ≤ R.cells) (hs : slots + ks ≤ R.slots) (hQ : ∀ v h' vm' L, Q v h' vm' L → Fr n0 L ∧ Keep h h' ws') (hws : ∀ x ∈ ws', n0 ≤ x ∧ (x ∈ ws ∨ h0.size ≤ x))
    (k : ∀ v T' h' L vm', Here p l e R s m args below meth c Z bytes maxL ret own nm h0 n0 ws EL kn T' h' vm' (cells + kc) (slots + ks) → Q v h' vm' L → Keep h h' ws' → CHr Z EL vm0 h vm' h' → Go p.tables e below P (T'.setTop (mkF m pc' Ls (v.toList ++ rest)))) : Go p.tables e below P (T.setTop (mkF m pc Ls st)) := by
  obtain ⟨k0, locs, Y, N, eT, O, K, hx, hby, hml, hret, hlk, hown, hnm, hZ, hS, hk, hC, hEW, hKn, hsh⟩ := X
  obtain ⟨cq, kq, qa, qb, qc⟩ := isOf (s := s.setVm vm0) hZ eT E
  subst hp hstk
  obtain ⟨v, vm₁, ⟨T', L', k', n'⟩, -, X', hS', hg', ⟨L, hq, l', y', z', hC'⟩, st'⟩ := (own_ifUpS Y hx (J := J) (xi := y) (y := z) hown (mvT hZ w1) (mvT hZ w2) (Jvm.Free.ULB.iface_rides hZ.alike w3) hxo (mvT hZ w4) (mvT hZ w5) (mvT hZ w6) (mvT hZ w7) (mvT hZ w8) hy hcl hK qa qb qc (g := mkF m pc Ls (argsL.reverse ++ .ref b :: rest)) rfl (by rw [hml]; exact hsz) (argsL := argsL) (rest := rest) hlen rfl (by show 2 * 0 + _ ≤ _; omega) (hb hby hd) (fun _ _ => ⟨rfl, eT, hc, hs⟩))
  dsimp only [Pt.U, Pt.locs, Pt.cells, Pt.slots] at X' hS' hg' l' y' z' st' hq hC'
  subst l' y' z'
  obtain ⟨f1, f2⟩ := hQ _ _ _ _ hq
  have hZ' : Z.Warmed39 T'.vm := State.Warmed39.trans (t := s.setVm vm0) hZ hS'.1
  have hown' : T'.vm.findClass own = some m.cls := by
    have q := hS'.1.alike.findClass (name := own)
    exact (q _).trans hown
  exact Go.go (fun t q => st'.trans q) (k v T' _ L T'.vm ⟨T'.heap.size, _, X', N.app f1, rfl, O.keep f2 (fun x hx => (hws x hx).1), K.trans f2 (fun x hx => (hws x hx).2), hx, hby, hml, hret, hlk, hown', hnm, hZ', hS.trans hS' (Nat.le_trans hk (by rw [← eT]; exact hg')), Nat.le_refl _, hC.trans hC', hEW, KnP.alike hKn hS'.1.alike, hsh⟩ hq f2 hC')
theorem o_ldcC {index : Nat} {text : String} {n : Nat} {vs : List Value} {z : Int32} (X : Here p l e R s m args below meth c Z bytes maxL ret own nm h0 n0 ws EL kn T h vm0 cells slots) (w : (Cond.stringLink own index text).before a0 Z = true) (wS : ∀ a ∈ Bundle.stringAtoms, a.before a0 Z = true) (hmem : (own, index) ∈ EL) (ht : (∀ c ∈ text.toList, c.toNat < 256) ∧ text.toList.map (fun c => Value.int (Jvm.Lit.byteI c.toNat.toUInt16)) = vs) (hz : ¬ z < 0) (hlz : z.toNatClampNeg = vs.length) (hd : decode bytes pc = .ok (.ldc index, 2)) (hp : pc + 2 = pc') (hn : 4 * text.toList.length ≤ n) (hbig : n ≤ 536870912) (hc : cells + 2 ≤ R.cells) (hl : slots + (n + 4) ≤ R.slots)
    (k : ∀ a b kb T' h' vm', Here p l e R s m args below meth c Z bytes maxL ret own nm h0 n0 ws EL kn T' h' vm' (cells + 2) (slots + (n + 4)) → Ext h h' → CHr Z EL vm0 h vm' h' → Exa Z h' a "java/lang/String" → Fld Z h' a "java/lang/String" "coder" "B" (.int 0) → Fld Z h' a "java/lang/String" "value" "[B" (.ref b) → Arv Z h' b kb .byte z vs (.int 0) → (∀ x, Safe Z EL vm' h' x → x ≠ a ∧ x ≠ b) → Go p.tables e below P (T'.setTop (mkF m pc' Ls (.ref a :: st)))) : Go p.tables e below P (T.setTop (mkF m pc Ls st)) := by
  obtain ⟨k0, locs, Y, N, eT, O, K, hx, hby, hml, hret, hlk, hown, hnm, hZ, hS, hk, hC, ⟨a1, hEW⟩, hKn, hsh⟩ := X
  subst hp
  obtain ⟨a, T', h', k1, b, kb, Y', e', E', hS', hk', hZ', hown', q1, q2, q3, q4, -, -, hC', -, q5, st'⟩ := ldcCH Y hx hZ hown w wS eT hS hk hEW hmem hC.1 ht hz hlz (g := mkF m pc Ls st) rfl (hb hby hd) hn hbig hc hl
  have hal : vm0.Alike T'.vm := hZ.alike.symm.trans hZ'.alike
  exact Go.go st' (k a b kb T' h' T'.vm ⟨k1, locs, Y', N, e', O.ext E', K.ext E', hx, hby, hml, hret, hlk, hown', hnm, hZ', hS', hk', hC.trans hC', ⟨a1, hEW⟩, KnP.alike hKn hal, hsh⟩ E' hC' q1 q2 q3 q4 q5)
theorem back_met {y : MethodName} {bytes' : ByteArray} {maxL' : Nat} {ret' : Option FieldType} {rm : Room} {len W : Nat} {as' : Array Value} {ws' sf' : List Addr} {Po : Option Value → Heap → Vm → Prop} (hM : Met l y bytes' maxL' ret' [] rm Z as' h n0 ws' EL kn sf' Po) (X : Here p l e R s m args below meth c Z bytes maxL ret own nm h0 n0 ws EL kn T h vm0 cells slots) (wc : (Cond.code y bytes' maxL' ret').before a0 Z = true) (wz : (Cond.initialized y.cls).before a0 Z = true) (hf : rm.frames + 1 ≤ R.frames) (hl : W + (maxL' + 11) + rm.locals ≤ R.locals) (hsf : ∀ x ∈ sf', x < h.size ∧ Safe Z EL vm0 h x) :
    BackS l R p e below (s.setVm vm0) args y len W (fun A a => a = as' ∧ A.U.heap = h ∧ A.cells + rm.cells ≤ R.cells ∧ A.slots + rm.slots ≤ R.slots) (fun A _ v B => ∃ L, QQ h n0 ws' Po v B.U.heap B.U.vm L ∧ B.locs = A.locs ++ L ∧ B.cells = A.cells + rm.cells ∧ B.slots = A.slots + rm.slots ∧ CHr Z EL vm0 h B.U.vm B.U.heap) := by
  obtain ⟨k0, locs, Y, N, eT, O, K, hx, hby, hml, hret, hlk, hown, hnm, hZ, hS, hk, hC, ⟨a1, hEW⟩, hKn, hsh⟩ := X
  refine BackS.of_freeWG (s := s.setVm vm0) (bytes := bytes') (maxL := maxL') (ret := ret') (E := fun _ first o t L k n => k = rm.cells ∧ n = rm.slots ∧ (∃ v, o = .returned v ∧ QQ h n0 ws' Po v t.heap t.vm L) ∧ CHr Z EL first.vm first.heap t.vm t.heap) hM hf hl ?_ ?_ ?_ ?_ ?_
  · intro m meth c A a Y hp
    have hU : Z.Warmed39 A.U.vm := wtrans (s := s.setVm vm0) hZ Y.warmed
    exact ⟨by show (Cond.and _ .tt).before a A.U = true; rw [Cond.before_and, mv hU wc]; rfl, mv hU wc, mv hU wz, hp.2.2.1, hp.2.2.2⟩
  · intro m meth c A a g mk Y hp
    have c1 := CHv.at Y hZ hEW hC.1
    exact ⟨hp.1, wtrans (s := s.setVm vm0) hZ Y.warmed, hp.2.1, c1.1, fun x hx => c1.safe (hsf x hx).1 (hsf x hx).2⟩
  · intro m meth c A a g mk Y _ hg q
    exact known_frames Y hg (hKn q).1 (hKn q).2
  · rintro _ _ _ _ ⟨v, L, h1, h2, h3, h4⟩
    exact ⟨L, _, _, h4, rfl, rfl, ⟨v, h1, h2⟩, h3⟩
  · rintro m meth c A a g mk v t L k n Y hp _ _ ⟨e1, e2, ⟨v', e3, e4⟩, e5⟩
    cases e3; subst e1 e2
    refine ⟨L, e4, rfl, rfl, rfl, (CHv.at Y hZ hEW hC.1).trans ?_⟩
    rw [← hp.2.1]; exact e5
theorem nf_sel {C : String} {y : MethodName} (w : (Cond.selects C y y).before a0 Z = true) : ∀ s' : State, Z.Warmed39 s'.vm → NotFace s' y := fun s' hz => notFace_of_selects (args := #[]) (mvT hz w)
theorem qq_fr {ws' : List Addr} {Po : Option Value → Heap → Vm → Prop} : ∀ v h' vm' L, QQ h n0 ws' Po v h' vm' L → Fr n0 L ∧ Keep h h' ws' := fun _ _ _ _ q => ⟨q.1, q.2.1⟩
theorem nP (cap : Nat) {aty : ArrayType} {n : Int32} {ad : String} (X : Here p l e R s m args below meth c Z bytes maxL ret own nm h0 n0 ws EL kn T h vm0 cells slots) (w : (Cond.arrayClass (newarray.typeOf aty)).before a0 Z = true) (hd : decode bytes pc = .ok (.newarray aty, 2)) (hp : pc + 2 = pc') (hq : ¬ n < 0 ∧ n.toNatClampNeg ≤ cap ∧ cap * 8 ≤ 536870912 ∧ cells + 1 ≤ R.cells ∧ slots + cap ≤ R.slots) (had : "[" ++ (newarray.typeOf aty).toString = ad)
    (k : ∀ T' h' b ka, Here p l e R s m args below meth c Z bytes maxL ret own nm h0 n0 ws EL kn T' h' vm0 (cells + 1) (slots + cap) → b = h.size → b < h'.size → Ext h h' → Arv Z h' b ka (newarray.typeOf aty) n [] (defaultValue (newarray.typeOf aty)) → Exa Z h' b ad → CHr Z EL vm0 h vm0 h' → Safe Z EL vm0 h' b → Go p.tables e below P (T'.setTop (mkF m pc' Ls (.ref b :: st)))) : Go p.tables e below P (T.setTop (mkF m pc Ls (.int n :: st))) := o_newP pc' X w hd hp hq.1 hq.2.1 hq.2.2.1 hq.2.2.2.1 hq.2.2.2.2 had k
theorem had_byte : "[" ++ (newarray.typeOf .byte).toString = "[B" := by decide +kernel
theorem had_char : "[" ++ (newarray.typeOf .char).toString = "[C" := by decide +kernel
theorem sC (i : Nat) (y : Int32) {a : Addr} {ka : ClassId} {n j x : Int32} {vs : List Value} {d : Value} (X : Here p l e R s m args below meth c Z bytes maxL ret own nm h0 n0 ws EL kn T h vm0 cells slots) (F : Arv Z h a ka .char n vs d) (hj : (¬ j < 0 ∧ j < n) ∧ j.toNatClampNeg = i) (hil : i < vs.length) (hv : nar .char x = y) (hd : decode bytes pc = .ok (.castore, 1)) (hp : pc + 1 = pc') (hn0 : n0 ≤ a) (hws : a ∈ ws ∨ h0.size ≤ a) (hsf : Safe Z EL vm0 h a)
    (k : ∀ T' h', Here p l e R s m args below meth c Z bytes maxL ret own nm h0 n0 ws EL kn T' h' vm0 cells slots → (∃ sl w, Wr h h' a sl w) → CHr Z EL vm0 h vm0 h' → Arv Z h' a ka .char n (vs.set i (.int y)) d → Go p.tables e below P (T'.setTop (mkF m pc' Ls st))) : Go p.tables e below P (T.setTop (mkF m pc Ls (.int x :: .int j :: .ref a :: st))) := o_stC pc' X F hj.1 hj.2 hil hv hd hp hn0 hws hsf k
theorem sB (i : Nat) (y : Int32) {a : Addr} {ka : ClassId} {n j x : Int32} {vs : List Value} {d : Value} (X : Here p l e R s m args below meth c Z bytes maxL ret own nm h0 n0 ws EL kn T h vm0 cells slots) (F : Arv Z h a ka .byte n vs d) (hj : (¬ j < 0 ∧ j < n) ∧ j.toNatClampNeg = i) (hil : i < vs.length) (hv : nar .byte x = y) (hd : decode bytes pc = .ok (.bastore, 1)) (hp : pc + 1 = pc') (hn0 : n0 ≤ a) (hws : a ∈ ws ∨ h0.size ≤ a) (hsf : Safe Z EL vm0 h a)
    (k : ∀ T' h', Here p l e R s m args below meth c Z bytes maxL ret own nm h0 n0 ws EL kn T' h' vm0 cells slots → (∃ sl w, Wr h h' a sl w) → CHr Z EL vm0 h vm0 h' → Arv Z h' a ka .byte n (vs.set i (.int y)) d → Go p.tables e below P (T'.setTop (mkF m pc' Ls st))) : Go p.tables e below P (T.setTop (mkF m pc Ls (.int x :: .int j :: .ref a :: st))) := o_stB pc' X F hj.1 hj.2 hil hv hd hp hn0 hws hsf k
def WS_static (Z : State) (a0 : Array Value) (own : String) (index : Nat) (y : MethodName) (bytes' : ByteArray) (maxL' : Nat) (ret' : Option FieldType) (an : Nat) : Prop := ((Cond.methodLink own index y).before a0 Z = true) ∧ ((Cond.static y).before a0 Z = true) ∧ ((Cond.initialized y.cls).before a0 Z = true) ∧ ((Cond.code y bytes' maxL' ret').before a0 Z = true) ∧ (y.cls ≠ "java/lang/invoke/MethodHandle" ∧ y.cls ≠ "java/lang/invoke/VarHandle") ∧ (∀ sig, parseMethodDescriptor y.desc = some sig → an = sig.parameters.length)
theorem mS (W : Nat) {index : Nat} {y : MethodName} {bytes' : ByteArray} {maxL' : Nat} {ret' : Option FieldType} {rm : Room} {ws' sf' : List Addr} {argsL : List Value} {Po : Option Value → Heap → Vm → Prop} (X : Here p l e R s m args below meth c Z bytes maxL ret own nm h0 n0 ws EL kn T h vm0 cells slots) (hM : Old Z n0 h → Met l y bytes' maxL' ret' [] rm Z argsL.toArray h n0 ws' EL kn sf' Po) (hv : WS_static Z a0 own index y bytes' maxL' ret' argsL.length) (hsf : ∀ x ∈ sf', x < h.size ∧ Safe Z EL vm0 h x) (hd : decode bytes pc = .ok (.invokestatic index, 3)) (hp : pc + 3 = pc') (hsz : Ls.size = maxL) (hstk : st = argsL.reverse ++ rest) (hW : (rest.map fun v => v.category).sum ≤ W) (hr : rm.frames + 1 ≤ R.frames ∧ W + (maxL' + 11) + rm.locals ≤ R.locals ∧ cells + rm.cells ≤ R.cells ∧ slots + rm.slots ≤ R.slots) (hws : ∀ x ∈ ws', n0 ≤ x ∧ (x ∈ ws ∨ h0.size ≤ x))
    (k : ∀ v T' h' vm', Here p l e R s m args below meth c Z bytes maxL ret own nm h0 n0 ws EL kn T' h' vm' (cells + rm.cells) (slots + rm.slots) → Po v h' vm' → Keep h h' ws' → h.size ≤ h'.size → CHr Z EL vm0 h vm' h' → Go p.tables e below P (T'.setTop (mkF m pc' Ls (v.toList ++ rest)))) : Go p.tables e below P (T.setTop (mkF m pc Ls st)) := by
  obtain ⟨g0, g1, g2, g3, g4, g5⟩ := hv
  exact o_static pc' X g0 g1 g2 g3 g4 g5 (back_met (hM X.old) X g3 g2 hr.1 hr.2.1 hsf) hd hp hsz hstk hW hr.2.2.1 hr.2.2.2 qq_fr hws (fun v T' h' L vm' X' q K C => k v T' h' vm' X' q.2.2 K K.1 C)
def WS_special (Z : State) (a0 : Array Value) (own : String) (index : Nat) (y : MethodName) (bytes' : ByteArray) (maxL' : Nat) (an : Nat) : Prop := ((Cond.initialized y.cls).before a0 Z = true) ∧ (y.name = "<init>") ∧ ((Cond.methodLink own index y).before a0 Z = true) ∧ ((Cond.instanceMethod y).before a0 Z = true) ∧ ((Cond.code y bytes' maxL' none).before a0 Z = true) ∧ (y.cls ≠ "java/lang/invoke/MethodHandle" ∧ y.cls ≠ "java/lang/invoke/VarHandle") ∧ (∀ sig, parseMethodDescriptor y.desc = some sig → an = sig.parameters.length)
theorem mP (W : Nat) {b : Addr} {index : Nat} {y : MethodName} {bytes' : ByteArray} {maxL' : Nat} {rm : Room} {ws' sf' : List Addr} {argsL : List Value} {Po : Option Value → Heap → Vm → Prop} (X : Here p l e R s m args below meth c Z bytes maxL ret own nm h0 n0 ws EL kn T h vm0 cells slots) (hM : Old Z n0 h → Met l y bytes' maxL' none [] rm Z (.ref b :: argsL).toArray h n0 ws' EL kn sf' Po) (hv : WS_special Z a0 own index y bytes' maxL' argsL.length) (hsf : ∀ x ∈ sf', x < h.size ∧ Safe Z EL vm0 h x) (hd : decode bytes pc = .ok (.invokespecial index, 3)) (hp : pc + 3 = pc') (hsz : Ls.size = maxL) (hstk : st = argsL.reverse ++ .ref b :: rest) (hW : (rest.map fun v => v.category).sum ≤ W) (hr : rm.frames + 1 ≤ R.frames ∧ W + (maxL' + 11) + rm.locals ≤ R.locals ∧ cells + rm.cells ≤ R.cells ∧ slots + rm.slots ≤ R.slots) (hws : ∀ x ∈ ws', n0 ≤ x ∧ (x ∈ ws ∨ h0.size ≤ x))
    (k : ∀ v T' h' vm', Here p l e R s m args below meth c Z bytes maxL ret own nm h0 n0 ws EL kn T' h' vm' (cells + rm.cells) (slots + rm.slots) → Po v h' vm' → Keep h h' ws' → h.size ≤ h'.size → CHr Z EL vm0 h vm' h' → Go p.tables e below P (T'.setTop (mkF m pc' Ls (v.toList ++ rest)))) : Go p.tables e below P (T.setTop (mkF m pc Ls st)) := by
  obtain ⟨gz, g0, g1, g2, g3, g4, g5⟩ := hv
  exact o_special pc' X g0 g1 g2 g3 g4 g5 (back_met (hM X.old) X g3 gz hr.1 hr.2.1 hsf) hd hp hsz hstk hW hr.2.2.1 hr.2.2.2 qq_fr hws (fun v T' h' L vm' X' q K C => k v T' h' vm' X' q.2.2 K K.1 C)
def WS_virtual (Z : State) (a0 : Array Value) (own : String) (index : Nat) (C : String) (y z : MethodName) (bytes' : ByteArray) (maxL' : Nat) (ret' : Option FieldType) (an : Nat) : Prop := ((Cond.code z bytes' maxL' ret').before a0 Z = true) ∧ ((Cond.initialized z.cls).before a0 Z = true) ∧ ((Cond.methodLink own index y).before a0 Z = true) ∧ ((Cond.declares y).before a0 Z = true) ∧ ((Cond.selects C y z).before a0 Z = true) ∧ ((Cond.instanceMethod z).before a0 Z = true) ∧ (∀ s' : State, Z.Warmed39 s'.vm → NotFace s' y) ∧ (y.cls ≠ "java/lang/invoke/MethodHandle" ∧ y.cls ≠ "java/lang/invoke/VarHandle") ∧ (∀ sig, parseMethodDescriptor y.desc = some sig → an = sig.parameters.length)
theorem mV (W : Nat) {b : Addr} {index : Nat} {C : String} {y z : MethodName} {bytes' : ByteArray} {maxL' : Nat} {ret' : Option FieldType} {rm : Room} {ws' sf' : List Addr} {argsL : List Value} {Po : Option Value → Heap → Vm → Prop} (X : Here p l e R s m args below meth c Z bytes maxL ret own nm h0 n0 ws EL kn T h vm0 cells slots) (E : Exa Z h b C) (hM : Old Z n0 h → Met l z bytes' maxL' ret' [] rm Z (.ref b :: argsL).toArray h n0 ws' EL kn sf' Po) (hv : WS_virtual Z a0 own index C y z bytes' maxL' ret' argsL.length) (hsf : ∀ x ∈ sf', x < h.size ∧ Safe Z EL vm0 h x) (hd : decode bytes pc = .ok (.invokevirtual index, 3)) (hp : pc + 3 = pc') (hsz : Ls.size = maxL) (hstk : st = argsL.reverse ++ .ref b :: rest) (hW : (rest.map fun v => v.category).sum ≤ W) (hr : rm.frames + 1 ≤ R.frames ∧ W + (maxL' + 11) + rm.locals ≤ R.locals ∧ cells + rm.cells ≤ R.cells ∧ slots + rm.slots ≤ R.slots) (hws : ∀ x ∈ ws', n0 ≤ x ∧ (x ∈ ws ∨ h0.size ≤ x))
    (k : ∀ v T' h' vm', Here p l e R s m args below meth c Z bytes maxL ret own nm h0 n0 ws EL kn T' h' vm' (cells + rm.cells) (slots + rm.slots) → Po v h' vm' → Keep h h' ws' → h.size ≤ h'.size → CHr Z EL vm0 h vm' h' → Go p.tables e below P (T'.setTop (mkF m pc' Ls (v.toList ++ rest)))) : Go p.tables e below P (T.setTop (mkF m pc Ls st)) := by
  obtain ⟨gc, gz, g0, g1, g2, g3, g4, g5, g6⟩ := hv
  exact o_virtual pc' X E g0 g1 g2 g3 g4 g5 g6 (back_met (hM X.old) X gc gz hr.1 hr.2.1 hsf) hd hp hsz hstk hW hr.2.2.1 hr.2.2.2 qq_fr hws (fun v T' h' L vm' X' q K C => k v T' h' vm' X' q.2.2 K K.1 C)
def WS_iface (Z : State) (a0 : Array Value) (own : String) (index : Nat) (C : String) (y z : MethodName) (bytes' : ByteArray) (maxL' : Nat) (ret' : Option FieldType) (an : Nat) : Prop := ((Cond.code z bytes' maxL' ret').before a0 Z = true) ∧ ((Cond.initialized z.cls).before a0 Z = true) ∧ ((Cond.methodLink own index y).before a0 Z = true) ∧ ((Cond.declares y).before a0 Z = true) ∧ ((Cond.interfaceMethod y.cls y.cls y.name y.desc).before a0 Z = true) ∧ ((Cond.selects C y z).before a0 Z = true) ∧ ((Cond.instanceMethod z).before a0 Z = true) ∧ ((Cond.publicMethod z).before a0 Z = true) ∧ ((Cond.unhidden C y.name y.desc).before a0 Z = true) ∧ ((Cond.castable C y.cls).before a0 Z = true) ∧ (((Cond.interfaceMethod y.cls y.cls y.name y.desc).onTables && (Cond.interfaceMethod y.cls y.cls y.name y.desc).keepsFace) = true) ∧ (y.cls ≠ "java/lang/invoke/MethodHandle" ∧ y.cls ≠ "java/lang/invoke/VarHandle") ∧ (∀ sig, parseMethodDescriptor y.desc = some sig → an = sig.parameters.length)
theorem mF (W : Nat) {b : Addr} {index count : Nat} {C : String} {y z : MethodName} {bytes' : ByteArray} {maxL' : Nat} {ret' : Option FieldType} {rm : Room} {ws' sf' : List Addr} {argsL : List Value} {Po : Option Value → Heap → Vm → Prop} (X : Here p l e R s m args below meth c Z bytes maxL ret own nm h0 n0 ws EL kn T h vm0 cells slots) (E : Exa Z h b C) (hM : Old Z n0 h → Met l z bytes' maxL' ret' [] rm Z (.ref b :: argsL).toArray h n0 ws' EL kn sf' Po) (hv : WS_iface Z a0 own index C y z bytes' maxL' ret' argsL.length) (hsf : ∀ x ∈ sf', x < h.size ∧ Safe Z EL vm0 h x) (hd : decode bytes pc = .ok (.invokeinterface index count, 5)) (hp : pc + 5 = pc') (hsz : Ls.size = maxL) (hstk : st = argsL.reverse ++ .ref b :: rest) (hW : (rest.map fun v => v.category).sum ≤ W) (hr : rm.frames + 1 ≤ R.frames ∧ W + (maxL' + 11) + rm.locals ≤ R.locals ∧ cells + rm.cells ≤ R.cells ∧ slots + rm.slots ≤ R.slots) (hws : ∀ x ∈ ws', n0 ≤ x ∧ (x ∈ ws ∨ h0.size ≤ x))
    (k : ∀ v T' h' vm', Here p l e R s m args below meth c Z bytes maxL ret own nm h0 n0 ws EL kn T' h' vm' (cells + rm.cells) (slots + rm.slots) → Po v h' vm' → Keep h h' ws' → h.size ≤ h'.size → CHr Z EL vm0 h vm' h' → Go p.tables e below P (T'.setTop (mkF m pc' Ls (v.toList ++ rest)))) : Go p.tables e below P (T.setTop (mkF m pc Ls st)) := by
  obtain ⟨gc, gz, g0, g1, g2, g3, g4, g5, g6, g7, g8, g9, g10⟩ := hv
  exact o_iface pc' X E g0 g1 g2 g3 g4 g5 g6 g7 g8 g9 g10 (back_met (hM X.old) X gc gz hr.1 hr.2.1 hsf) hd hp hsz hstk hW hr.2.2.1 hr.2.2.2 qq_fr hws (fun v T' h' L vm' X' q K C => k v T' h' vm' X' q.2.2 K K.1 C)
def WS_super (Z : State) (a0 : Array Value) (own : String) (index : Nat) (y : MethodName) (bytes' : ByteArray) (maxL' : Nat) (ret' : Option FieldType) (C : String) (an : Nat) : Prop := ((Cond.initialized y.cls).before a0 Z = true) ∧ ((Cond.methodLink own index y).before a0 Z = true) ∧ ((Cond.sameMethod y.cls y.cls y.name y.desc).before a0 Z = true) ∧ ((Cond.instanceMethod y).before a0 Z = true) ∧ ((Cond.superclass own y.cls).before a0 Z = true) ∧ (y.name ≠ "<init>") ∧ ((Cond.code y bytes' maxL' ret').before a0 Z = true) ∧ (∀ sig, parseMethodDescriptor y.desc = some sig → an = sig.parameters.length)
theorem mU (W : Nat) {b : Addr} {index : Nat} {y : MethodName} {bytes' : ByteArray} {maxL' : Nat} {ret' : Option FieldType} {C : String} {rm : Room} {ws' sf' : List Addr} {argsL : List Value} {Po : Option Value → Heap → Vm → Prop} (X : Here p l e R s m args below meth c Z bytes maxL ret own nm h0 n0 ws EL kn T h vm0 cells slots) (E : Exa Z h b C) (hM : Old Z n0 h → Met l y bytes' maxL' ret' [] rm Z (.ref b :: argsL).toArray h n0 ws' EL kn sf' Po) (hv : WS_super Z a0 own index y bytes' maxL' ret' C argsL.length) (hsf : ∀ x ∈ sf', x < h.size ∧ Safe Z EL vm0 h x) (hd : decode bytes pc = .ok (.invokespecial index, 3)) (hp : pc + 3 = pc') (hsz : Ls.size = maxL) (hstk : st = argsL.reverse ++ .ref b :: rest) (hW : (rest.map fun v => v.category).sum ≤ W) (hr : rm.frames + 1 ≤ R.frames ∧ W + (maxL' + 11) + rm.locals ≤ R.locals ∧ cells + rm.cells ≤ R.cells ∧ slots + rm.slots ≤ R.slots) (hws : ∀ x ∈ ws', n0 ≤ x ∧ (x ∈ ws ∨ h0.size ≤ x))
    (k : ∀ v T' h' vm', Here p l e R s m args below meth c Z bytes maxL ret own nm h0 n0 ws EL kn T' h' vm' (cells + rm.cells) (slots + rm.slots) → Po v h' vm' → Keep h h' ws' → h.size ≤ h'.size → CHr Z EL vm0 h vm' h' → Go p.tables e below P (T'.setTop (mkF m pc' Ls (v.toList ++ rest)))) : Go p.tables e below P (T.setTop (mkF m pc Ls st)) := by
  obtain ⟨gz, g0, g1, g2, g3, g4, g5, g6⟩ := hv
  exact o_super pc' X E g0 g1 g2 g3 g4 g5 g6 (back_met (hM X.old) X g5 gz hr.1 hr.2.1 hsf) hd hp hsz hstk hW hr.2.2.1 hr.2.2.2 qq_fr hws (fun v T' h' L vm' X' q K C => k v T' h' vm' X' q.2.2 K K.1 C)
def WS_ifaceUp (Z : State) (a0 : Array Value) (own : String) (index : Nat) (C J : String) (y z : MethodName) (bytes' : ByteArray) (maxL' : Nat) (ret' : Option FieldType) (an : Nat) : Prop := ((Cond.code z bytes' maxL' ret').before a0 Z = true) ∧ ((Cond.initialized z.cls).before a0 Z = true) ∧ ((Cond.methodLink own index y).before a0 Z = true) ∧ ((Cond.declares ⟨J, y.name, y.desc⟩).before a0 Z = true) ∧ ((Cond.interfaceMethod y.cls J y.name y.desc).before a0 Z = true) ∧ (y.cls ≠ J) ∧ ((Cond.selects C y z).before a0 Z = true) ∧ ((Cond.instanceMethod z).before a0 Z = true) ∧ ((Cond.publicMethod z).before a0 Z = true) ∧ ((Cond.unhidden C y.name y.desc).before a0 Z = true) ∧ ((Cond.castable C y.cls).before a0 Z = true) ∧ (y.name ≠ "clone") ∧ (y.cls ≠ "java/lang/invoke/MethodHandle" ∧ y.cls ≠ "java/lang/invoke/VarHandle") ∧ (∀ sig, parseMethodDescriptor y.desc = some sig → an = sig.parameters.length)
theorem m_ifaceUp (W : Nat) {b : Addr} {index count : Nat} {C J : String} {y z : MethodName} {bytes' : ByteArray} {maxL' : Nat} {ret' : Option FieldType} {rm : Room} {ws' sf' : List Addr} {argsL : List Value} {Po : Option Value → Heap → Vm → Prop} (X : Here p l e R s m args below meth c Z bytes maxL ret own nm h0 n0 ws EL kn T h vm0 cells slots) (E : Exa Z h b C) (hM : Old Z n0 h → Met l z bytes' maxL' ret' [] rm Z (.ref b :: argsL).toArray h n0 ws' EL kn sf' Po) (hv : WS_ifaceUp Z a0 own index C J y z bytes' maxL' ret' argsL.length) (hsf : ∀ x ∈ sf', x < h.size ∧ Safe Z EL vm0 h x) (hd : decode bytes pc = .ok (.invokeinterface index count, 5)) (hp : pc + 5 = pc') (hsz : Ls.size = maxL) (hstk : st = argsL.reverse ++ .ref b :: rest) (hW : (rest.map fun v => v.category).sum ≤ W) (hr : rm.frames + 1 ≤ R.frames ∧ W + (maxL' + 11) + rm.locals ≤ R.locals ∧ cells + rm.cells ≤ R.cells ∧ slots + rm.slots ≤ R.slots) (hws : ∀ x ∈ ws', n0 ≤ x ∧ (x ∈ ws ∨ h0.size ≤ x))
    (k : ∀ v T' h' vm', Here p l e R s m args below meth c Z bytes maxL ret own nm h0 n0 ws EL kn T' h' vm' (cells + rm.cells) (slots + rm.slots) → Po v h' vm' → Keep h h' ws' → h.size ≤ h'.size → CHr Z EL vm0 h vm' h' → Go p.tables e below P (T'.setTop (mkF m pc' Ls (v.toList ++ rest)))) : Go p.tables e below P (T.setTop (mkF m pc Ls st)) := by
  obtain ⟨gc, gz, g0, g1, g2, g3, g4, g5, g6, g7, g8, g9, g10, g11⟩ := hv
  exact o_ifaceUp pc' X E g0 g1 g2 g3 g4 g5 g6 g7 g8 g9 g10 g11 (back_met (hM X.old) X gc gz hr.1 hr.2.1 hsf) hd hp hsz hstk hW hr.2.2.1 hr.2.2.2 qq_fr hws (fun v T' h' L vm' X' q K C => k v T' h' vm' X' q.2.2 K K.1 C)
theorem sk (st' : List Value) (q : st = st') (k : Go p.tables e below P (T.setTop (mkF m pc Ls st'))) : Go p.tables e below P (T.setTop (mkF m pc Ls st)) := q ▸ k
def BI (y : MethodName) (own nm : String) : Prop := plainFor y = true ∧ y.cls = own ∧ y.name = nm
theorem mi {y : MethodName} {wl : List Cond} {as' : Array Value} {Po : Option Value → Heap → Vm → Prop} (hB : BI y own nm) (hef : ∀ m, entryFrame m as' maxL = mkF m 0 Ls []) (hew : EW Z a0 EL)
    (body : ∀ {p e m below meth c s₁} s, Here p l e R s m as' below meth c Z bytes maxL ret own nm h0 n0 ws EL kn s₁ h0 s.vm 0 0 → (∀ x ∈ sf, Safe Z EL s.vm h0 x) → n0 ≤ h0.size → Go p.tables e below (PO s R h0 n0 ws Z EL Po) (s₁.setTop (mkF m 0 Ls []))) : Old Z n0 h0 → Met l y bytes maxL ret wl R Z as' h0 n0 ws EL kn sf Po := fun O =>
  met_intro hB.1 hB.2.1 hB.2.2 O hew fun p e s m below meth c s₁ X hs => Go.cast (hef m) (body s X hs X.n0le)
theorem sx {a : Addr} {C : String} (X : Here p l e R s m args below meth c Z bytes maxL ret own nm h0 n0 ws EL kn T h vm0 cells slots) (E : Exa Z h a C) (q : C ≠ "java/lang/String" ∧ C ≠ "[B") : Safe Z EL vm0 h a := Safe.exa X.al E q.1 q.2
theorem sS {a : Addr} {L : List Addr} (q1 : h.size > a) (q2 : Safe Z EL vm0 h a) (r : ∀ x ∈ L, x < h.size ∧ Safe Z EL vm0 h x) : ∀ x ∈ a :: L, x < h.size ∧ Safe Z EL vm0 h x := allS ⟨q1, q2⟩ r
theorem aI {a : Addr} {L : List Addr} (q : n0 ≤ a) (q2 : a ∈ ws) (r : ∀ x ∈ L, n0 ≤ x ∧ (x ∈ ws ∨ h0.size ≤ x)) : ∀ x ∈ a :: L, n0 ≤ x ∧ (x ∈ ws ∨ h0.size ≤ x) := allS ⟨q, Or.inl q2⟩ r
theorem aR {a : Addr} {L : List Addr} (q : n0 ≤ a ∧ h0.size ≤ a) (r : ∀ x ∈ L, n0 ≤ x ∧ (x ∈ ws ∨ h0.size ≤ x)) : ∀ x ∈ a :: L, n0 ≤ x ∧ (x ∈ ws ∨ h0.size ≤ x) := allS ⟨q.1, Or.inr q.2⟩ r
end Kit
end Jvm.OwnKit
namespace Jvm.OwnKit
open Sem ClassFile Op Lib Jvm.Stand Jvm.Free Jvm.LawKit Jvm.RoadKit
section Common
variable {Z : State} {h : Heap} {a0 : Array Value}
theorem own_ne {a b : Nat} (h : a < b ∨ b < a) : a ≠ b := fun q => by omega
theorem own_lt {a b : Nat} (h : b > a) : a < b := h
theorem own_c255 (x c : Int32) (e : (x &&& (255 : Int32)).toUInt32.toUInt16.toUInt32.toInt32 = c) : ¬ c < 0 ∧ ¬ (255 : Int32) < c := by
  subst e
  have t : ∀ k : Fin 256, ¬ ((Int32.ofNat k.val).toUInt32.toUInt16.toUInt32.toInt32) < 0 ∧ ¬ (255 : Int32) < ((Int32.ofNat k.val).toUInt32.toUInt16.toUInt32.toInt32) := by decide +kernel
  have h : (x &&& 255).toBitVec.toNat < 256 := by
    simp only [Int32.toBitVec_and, BitVec.toNat_and]
    exact Nat.lt_succ_of_le Nat.and_le_right
  have e : (x &&& 255) = Int32.ofNat (x &&& 255).toBitVec.toNat := by
    apply Int32.toBitVec_inj.mp
    show _ = BitVec.ofNat 32 _
    rw [BitVec.ofNat_toNat]; simp
  rw [e]
  exact t ⟨_, h⟩
theorem own_narC {c : Int32} (r : ¬ c < 0 ∧ ¬ (255 : Int32) < c) : nar .char c = c := by
  have t : ∀ k : Fin 256, nar .char (Int32.ofNat k.val) = Int32.ofNat k.val := by decide +kernel
  have h1 : 0 ≤ c.toInt := by have q := r.1; rw [Int32.lt_iff_toInt_lt] at q; have e : (0 : Int32).toInt = 0 := rfl; omega
  have h2 : c.toInt ≤ 255 := by have q := r.2; rw [Int32.lt_iff_toInt_lt] at q; have e : (255 : Int32).toInt = 255 := rfl; omega
  have e : c = Int32.ofNat c.toInt.toNat := by
    apply Int32.toInt_inj.mp
    rw [Int32.toInt_ofNat_of_lt (by omega)]
    omega
  rw [e]
  exact t ⟨c.toInt.toNat, by omega⟩
theorem own_narB (x : Int32) : nar .byte (x.toInt8.toInt32) = x.toInt8.toInt32 := by simp [nar]
theorem own_empty {args : Array Value} {s : State} {C n d E : String} {ty : FieldType} (hf : Fit s) (wI : (Cond.initialized C).before args s = true) (w3 : (Cond.laysStatic C n d).before args s = true) (hd : parseFieldDescriptor d = some (.array ty))
    (w5 : (Cond.arrayOf (Term.static C n d) ty).before args s = true) (w4 : (Cond.exactly (Term.static C n d) E).before args s = true) (w6 : (Cond.eq (Term.length (Term.static C n d)) (Term.int 0)).before args s = true) :
    ∃ (a : Addr) (k : ClassId), Sta s s.heap C n d (.ref a) ∧ Arv s s.heap a k ty (0 : Int32) [] .null ∧ Exa s s.heap a E := by
  obtain ⟨v, ev, -⟩ := static_fit hf w3 hd
  obtain ⟨a, cell, rfl, hA, harr, hvm⟩ := Jvm.Free.IntBox.arrayOf_fwd w5 ev
  obtain ⟨hsz, hsize⟩ := Jvm.Free.IntBox.length_fwd w6 ev hA harr hvm
  have h0 : cell.slots.size = 0 := by
    have e : (cell.slots.size.toInt32).toInt = cell.slots.size := by
      have : (cell.slots.size.toInt32).toInt = (cell.slots.size : Int).bmod (2 ^ 32) := by simp [Nat.toInt32, Int32.size]
      rw [this]; simp [Int.bmod]; omega
    rw [hsize] at e
    have : ((0 : Int32)).toInt = 0 := by decide
    omega
  exact ⟨a, cell.cls, Sta.start ev (Or.inr ⟨wI, w3⟩), ⟨cell, ⟨hA, harr, hvm⟩, rfl, by rw [h0]; decide, by decide, fun k hk => absurd hk (by omega), fun k hk => absurd hk (by omega)⟩, exa_at ev (Cond.before_iff.mp w4)⟩
theorem own_and3 (x : Int32) : x &&& 3 = 0 ∨ x &&& 3 = 1 ∨ x &&& 3 = 2 ∨ x &&& 3 = 3 := by
  obtain ⟨h1, h2⟩ := c_and x 3 (by decide)
  have e3 : (3 : Int32).toInt = 3 := by decide
  rw [e3] at h2
  have e0 : (0 : Int32).toInt = 0 := by decide
  have e1 : (1 : Int32).toInt = 1 := by decide
  have e2 : (2 : Int32).toInt = 2 := by decide
  rcases (by omega : (x &&& 3).toInt = 0 ∨ (x &&& 3).toInt = 1 ∨ (x &&& 3).toInt = 2 ∨ (x &&& 3).toInt = 3) with q | q | q | q
  · exact Or.inl (Int32.toInt_inj.mp (q.trans e0.symm))
  · exact Or.inr (Or.inl (Int32.toInt_inj.mp (q.trans e1.symm)))
  · exact Or.inr (Or.inr (Or.inl (Int32.toInt_inj.mp (q.trans e2.symm))))
  · exact Or.inr (Or.inr (Or.inr (Int32.toInt_inj.mp (q.trans e3.symm))))
theorem own_sto {h : Heap} {Z : State} {a0 : Array Value} {a y : Addr} {ka : ClassId} {ty : FieldType} {n : Int32} {vs : List Value} {d : Value} {C D : String} (A : Arv Z h a ka ty n vs d) (O : Ovr Z ka C) (E : Exa Z h y D) (w : (Cond.castable D C).before a0 Z = true) : Sto Z h a (.ref y) := by
  obtain ⟨cl, A1, q1, -⟩ := A
  exact Sto.of A1 (q1 ▸ O) (Ins.of_exa E w)
def own_bs (cs : List Int32) : List Value := (cs.map (fun c => c.toInt8.toInt32)).map Value.int
end Common
end Jvm.OwnKit
namespace Jvm.OwnKit
open Sem ClassFile Op Lib Jvm.Stand Jvm.Free Jvm.LawKit Jvm.RoadKit
end Jvm.OwnKit
namespace Jvm.RoadKit
open Sem ClassFile Op Lib Jvm.Stand Jvm.Free Jvm.LawKit Jvm.OwnKit
section Squeeze
variable {Z : State} {h h' : Heap} {a b c d : Addr} {C n dd : String} {v w : Value} {sl : Nat} {k : ClassId} {ty : FieldType} {z : Int32} {vs : List Value} {dv : Value}
theorem Exa.l (F : Exa Z h a C) : @LT.lt Nat _ a h.size := F.lt
theorem Fld.l (F : Fld Z h a C n dd w) : @LT.lt Nat _ a h.size := F.lt
theorem Arv.l (F : Arv Z h a k ty z vs dv) : @LT.lt Nat _ a h.size := F.lt
theorem Fld.oth (F : Fld Z h b C n dd w) (W : Wr h h' a sl v) (q : @LT.lt Nat _ b a ∨ @LT.lt Nat _ a b) : Fld Z h' b C n dd w := Fld.other W F (Or.inl (own_ne q))
theorem Fld.k0 (F : Fld Z h b C n dd w) (K : Keep h h' []) : Fld Z h' b C n dd w := F.keep K nin0
theorem Fld.k1 (F : Fld Z h b C n dd w) (K : Keep h h' [a]) (q : @LT.lt Nat _ b a ∨ @LT.lt Nat _ a b) : Fld Z h' b C n dd w := F.keep K (ninS (own_ne q) nin0)
theorem Fld.k2 (F : Fld Z h b C n dd w) (K : Keep h h' [a, c]) (q : (@LT.lt Nat _ b a ∨ @LT.lt Nat _ a b) ∧ (@LT.lt Nat _ b c ∨ @LT.lt Nat _ c b)) : Fld Z h' b C n dd w := F.keep K (ninS (own_ne q.1) (ninS (own_ne q.2) nin0))
theorem Fld.k3 (F : Fld Z h b C n dd w) (K : Keep h h' [a, c, d]) (q : (@LT.lt Nat _ b a ∨ @LT.lt Nat _ a b) ∧ (@LT.lt Nat _ b c ∨ @LT.lt Nat _ c b) ∧ (@LT.lt Nat _ b d ∨ @LT.lt Nat _ d b)) : Fld Z h' b C n dd w := F.keep K (ninS (own_ne q.1) (ninS (own_ne q.2.1) (ninS (own_ne q.2.2) nin0)))
theorem Arv.oth (F : Arv Z h b k ty z vs dv) (W : Wr h h' a sl v) (q : @LT.lt Nat _ b a ∨ @LT.lt Nat _ a b) : Arv Z h' b k ty z vs dv := F.other W (own_ne q)
theorem Arv.k0 (F : Arv Z h b k ty z vs dv) (K : Keep h h' []) : Arv Z h' b k ty z vs dv := F.keep K nin0
theorem Arv.k1 (F : Arv Z h b k ty z vs dv) (K : Keep h h' [a]) (q : @LT.lt Nat _ b a ∨ @LT.lt Nat _ a b) : Arv Z h' b k ty z vs dv := F.keep K (ninS (own_ne q) nin0)
theorem Arv.k2 (F : Arv Z h b k ty z vs dv) (K : Keep h h' [a, c]) (q : (@LT.lt Nat _ b a ∨ @LT.lt Nat _ a b) ∧ (@LT.lt Nat _ b c ∨ @LT.lt Nat _ c b)) : Arv Z h' b k ty z vs dv := F.keep K (ninS (own_ne q.1) (ninS (own_ne q.2) nin0))
theorem Arv.k3 (F : Arv Z h b k ty z vs dv) (K : Keep h h' [a, c, d]) (q : (@LT.lt Nat _ b a ∨ @LT.lt Nat _ a b) ∧ (@LT.lt Nat _ b c ∨ @LT.lt Nat _ c b) ∧ (@LT.lt Nat _ b d ∨ @LT.lt Nat _ d b)) : Arv Z h' b k ty z vs dv := F.keep K (ninS (own_ne q.1) (ninS (own_ne q.2.1) (ninS (own_ne q.2.2) nin0)))
theorem Arv.as (F : Arv Z h b k ty z vs dv) (vs' : List Value) (q : vs = vs') : Arv Z h b k ty z vs' dv := q ▸ F
end Squeeze
end Jvm.RoadKit
namespace Jvm.OwnKit
open Sem ClassFile Op Lib Jvm.Stand Jvm.Free Jvm.LawKit Jvm.RoadKit
abbrev NE (a b : Addr) : Prop := Nat.succ a ≠ Nat.succ b
abbrev DC (c : ByteArray) (pc : Nat) (i : Instr) (n : Nat) : Prop := decode c pc = .ok (i, n)
abbrev i0 : Value := .int 0
abbrev uu : Slot := .unset
abbrev rr (a : Addr) : Slot := .val (.ref a)
abbrev ii (n : Int32) : Slot := .val (.int n)
theorem lr {n : Nat} : n ≤ n := Nat.le_refl n
theorem own_nes {x a b : Addr} (h : x ≠ a ∧ x ≠ b) : NE x a ∧ NE x b := ⟨fun q => h.1 (Nat.succ.inj q), fun q => h.2 (Nat.succ.inj q)⟩
theorem lb {a b : Nat} (h : Nat.ble (a + 1) b = true) : a < b := Nat.le_of_ble_eq_true h
theorem lenN {d : String} {n : Nat} {g : MethodDescriptor} (h : parseMethodDescriptor d = some g) (q : n = g.parameters.length) : ∀ sig, parseMethodDescriptor d = some sig → n = sig.parameters.length := fun sig e => by cases h.symm.trans e; exact q
theorem own_neC {Z : State} {h : Heap} {a b : Addr} {C D : String} (E : Exa Z h a C) (F : Exa Z h b D) (hn : C ≠ D) : NE a b := fun q => by
  cases Nat.succ.inj q
  obtain ⟨c1, k1, h1, e1, -⟩ := E
  obtain ⟨c2, k2, h2, e2, -⟩ := F
  cases h1.symm.trans h2
  exact ids_ne e1 e2 hn rfl
theorem own_neA {Z : State} {h : Heap} {a b : Addr} {k1 k2 : ClassId} {t1 t2 : FieldType} {n1 n2 : Int32} {v1 v2 : List Value} {d1 d2 : Value} (A : Arv Z h a k1 t1 n1 v1 d1) (B : Arv Z h b k2 t2 n2 v2 d2) (hn : n1.toNatClampNeg ≠ n2.toNatClampNeg) : NE a b := fun q => by
  cases Nat.succ.inj q
  obtain ⟨g1, G1, -, z1, -⟩ := A
  obtain ⟨g2, G2, -, z2, -⟩ := B
  cases G1.1.symm.trans G2.1
  exact hn (z1.symm.trans z2)
theorem own_neE {Z : State} {a0 : Array Value} {h : Heap} {a b : Addr} {C : String} {n : Nat} {k2 : ClassId} {t2 : FieldType} {n2 : Int32} {v2 : List Value} {d2 : Value} (E : Exa Z h a C) (B : Arv Z h b k2 t2 n2 v2 d2) (w : (Cond.instantiable C n).before a0 Z = true) : NE a b := fun q => by
  cases Nat.succ.inj q
  obtain ⟨c1, k1, h1, e1, e2, -⟩ := E
  obtain ⟨g2, G2, -⟩ := B
  cases h1.symm.trans G2.1
  obtain ⟨t, kt, i1, i2, i3, -⟩ := Cond.instantiable_spec w
  cases e1.symm.trans i1
  obtain ⟨-, k, hk, comp, hkind⟩ := G2.2.1
  cases i2.symm.trans hk
  rw [i3] at hkind
  cases hkind
theorem wm {α : Type _} {l : List α} {i : Nat} {a : α} (h : l[i]? = some a) : a ∈ l := List.mem_of_getElem? h
end Jvm.OwnKit

namespace Jvm.Pilot.@@N@@
open Jvm Jvm.ClassFile Sem Op Lib Jvm.Free Jvm.Stand Jvm.LawKit Jvm.RoadKit Bundle Jvm.Pilot.@@N@@.Jvm.D Jvm.OwnKit

theorem hws_str {a0 : Array Value} {Z : State} (hw : ∀ d ∈ tables_1, d.before a0 Z = true) : ∀ d ∈ Bundle.stringAtoms, d.before a0 Z = true := fun d hd => hw d ((by decide +kernel : ∀ d ∈ Bundle.stringAtoms, d ∈ tables_1) d hd)
theorem w_10 {a0 : Array Value} {Z : State} (hw : ∀ d ∈ tables_1, d.before a0 Z = true) : (Jvm.Cond.instantiable "java/lang/String" (4 : Nat)).before a0 Z = true := hw _ (List.mem_of_getElem? (i := 10) rfl)
theorem w_14 {a0 : Array Value} {Z : State} (hw : ∀ d ∈ tables_1, d.before a0 Z = true) : (Jvm.Cond.arrayClass Jvm.ClassFile.FieldType.byte).before a0 Z = true := hw _ (List.mem_of_getElem? (i := 14) rfl)
theorem w_50 {a0 : Array Value} {Z : State} (hw : ∀ d ∈ tables_1, d.before a0 Z = true) : (Jvm.Cond.initialized "java/util/ArrayList").before a0 Z = true := hw _ (List.mem_of_getElem? (i := 50) rfl)
theorem w_230 {a0 : Array Value} {Z : State} (hw : ∀ d ∈ tables_1, d.before a0 Z = true) : (Jvm.Cond.stringLink "com/example/row_lease/rowlease/model/VersionGroup" (49 : Nat) " ").before a0 Z = true := hw _ (List.mem_of_getElem? (i := 230) rfl)
theorem w_287 {a0 : Array Value} {Z : State} (hw : ∀ d ∈ tables_1, d.before a0 Z = true) : (Jvm.Cond.stringLink "java/util/AbstractCollection" (92 : Nat) "[]").before a0 Z = true := hw _ (List.mem_of_getElem? (i := 287) rfl)
section Walks
set_option maxRecDepth 65536
set_option maxHeartbeats 40000000
abbrev EL0 : List (String × Nat) := [("com/example/row_lease/rowlease/model/VersionGroup", 49), ("java/util/AbstractCollection", 92)]
abbrev ex0 (Z : State) (h : Heap) (a : Addr) : Prop := Exa Z h a "[B"
abbrev ex1 (Z : State) (h : Heap) (a : Addr) : Prop := Exa Z h a "java/lang/String"
abbrev ex2 (Z : State) (h : Heap) (a : Addr) : Prop := Exa Z h a "java/util/ArrayList"
abbrev ex3 (Z : State) (h : Heap) (a : Addr) : Prop := Exa Z h a "[Ljava/lang/Object;"
abbrev ex4 (Z : State) (h : Heap) (a : Addr) : Prop := Exa Z h a "java/util/Collections$UnmodifiableRandomAccessList"
abbrev ex5 (Z : State) (h : Heap) (a : Addr) : Prop := Exa Z h a "com/example/row_lease/rowlease/model/VersionGroup"
abbrev ex6 (Z : State) (h : Heap) (a : Addr) : Prop := Exa Z h a "java/lang/StringBuilder"
abbrev ex7 (Z : State) (h : Heap) (a : Addr) : Prop := Exa Z h a "java/util/ArrayList$Itr"
abbrev fd0 (Z : State) (h : Heap) (a : Addr) (v : Value) : Prop := Fld Z h a "java/lang/String" "value" "[B" v
abbrev fd1 (Z : State) (h : Heap) (a : Addr) (v : Value) : Prop := Fld Z h a "java/lang/String" "coder" "B" v
abbrev fd2 (Z : State) (h : Heap) (a : Addr) (v : Value) : Prop := Fld Z h a "java/util/AbstractList" "modCount" "I" v
abbrev fd3 (Z : State) (h : Heap) (a : Addr) (v : Value) : Prop := Fld Z h a "java/util/ArrayList" "elementData" "[Ljava/lang/Object;" v
abbrev fd4 (Z : State) (h : Heap) (a : Addr) (v : Value) : Prop := Fld Z h a "java/util/ArrayList" "size" "I" v
abbrev fd5 (Z : State) (h : Heap) (a : Addr) (v : Value) : Prop := Fld Z h a "com/example/row_lease/rowlease/model/VersionGroup" "versionColumn" "Ljava/lang/String;" v
abbrev fd6 (Z : State) (h : Heap) (a : Addr) (v : Value) : Prop := Fld Z h a "com/example/row_lease/rowlease/model/VersionGroup" "columns" "Ljava/util/List;" v
abbrev fd7 (Z : State) (h : Heap) (a : Addr) (v : Value) : Prop := Fld Z h a "java/util/Collections$UnmodifiableCollection" "c" "Ljava/util/Collection;" v
abbrev fd8 (Z : State) (h : Heap) (a : Addr) (v : Value) : Prop := Fld Z h a "java/util/Collections$UnmodifiableList" "list" "Ljava/util/List;" v
abbrev fd9 (Z : State) (h : Heap) (a : Addr) (v : Value) : Prop := Fld Z h a "java/lang/AbstractStringBuilder" "value" "[B" v
abbrev fd10 (Z : State) (h : Heap) (a : Addr) (v : Value) : Prop := Fld Z h a "java/lang/AbstractStringBuilder" "coder" "B" v
abbrev fd11 (Z : State) (h : Heap) (a : Addr) (v : Value) : Prop := Fld Z h a "java/lang/AbstractStringBuilder" "count" "I" v
abbrev fd12 (Z : State) (h : Heap) (a : Addr) (v : Value) : Prop := Fld Z h a "java/util/ArrayList$Itr" "this$0" "Ljava/util/ArrayList;" v
abbrev fd13 (Z : State) (h : Heap) (a : Addr) (v : Value) : Prop := Fld Z h a "java/util/ArrayList$Itr" "lastRet" "I" v
abbrev fd14 (Z : State) (h : Heap) (a : Addr) (v : Value) : Prop := Fld Z h a "java/util/ArrayList$Itr" "expectedModCount" "I" v
abbrev fd15 (Z : State) (h : Heap) (a : Addr) (v : Value) : Prop := Fld Z h a "java/util/ArrayList$Itr" "cursor" "I" v
abbrev av0 (Z : State) (h : Heap) (a : Addr) (k : ClassId) (z : Int32) (vs : List Value) : Prop := Arv Z h a k .byte z vs (.int (0 : Int32))
abbrev av1 (Z : State) (h : Heap) (a : Addr) (k : ClassId) (z : Int32) (vs : List Value) : Prop := Arv Z h a k .char z vs (.int (0 : Int32))
abbrev av2 (Z : State) (h : Heap) (a : Addr) (k : ClassId) (z : Int32) (vs : List Value) : Prop := Arv Z h a k (.object "java/lang/Object") z vs .null
abbrev MM (y : MethodName) (b : ByteArray) (m : Nat) (t : Option FieldType) (l : Launch) (Z : State) (f c s o : Nat) (as' : Array Value) (h0 : Heap) (n0 : Nat) (ws sf : List Addr) (Po : Option Value → Heap → Vm → Prop) : Prop := Old Z n0 h0 → Met l y b m t [] ⟨f, c, s, o⟩ Z as' h0 n0 ws EL0 false sf Po
abbrev GL (l : Launch) (Z : State) (a0 : Array Value) (zc : Int32) (dce : Addr) (kdce : ClassId) (eed : Addr) (keed : ClassId) (mroa : Addr) (mral : Addr) (mrul : Addr) (mrur : Addr) : Prop := (∀ d ∈ tables_1, d.before a0 Z = true) ∧ (Sta Z Z.heap "java/lang/String" "COMPACT_STRINGS" "Z" (.int zc)) ∧ (¬ (zc = (0 : Int32))) ∧ (EW Z a0 EL0) ∧ (Sta Z Z.heap "java/util/ArrayList" "DEFAULTCAPACITY_EMPTY_ELEMENTDATA" "[Ljava/lang/Object;" (.ref dce)) ∧ (Arv Z Z.heap dce kdce (.object "java/lang/Object") (0 : Int32) [] .null) ∧ (Exa Z Z.heap dce "[Ljava/lang/Object;") ∧ (Sta Z Z.heap "java/util/ArrayList" "EMPTY_ELEMENTDATA" "[Ljava/lang/Object;" (.ref eed)) ∧ (Arv Z Z.heap eed keed (.object "java/lang/Object") (0 : Int32) [] .null) ∧ (Exa Z Z.heap eed "[Ljava/lang/Object;") ∧ (Mir Z "[Ljava/lang/Object;" mroa) ∧ (Mir Z "java/util/ArrayList" mral) ∧ (Mir Z "java/util/Collections$UnmodifiableList" mrul) ∧ (Mir Z "java/util/Collections$UnmodifiableRandomAccessList" mrur)
variable {l : Launch} {Z : State} {a0 : Array Value} {zc : Int32} {dce : Addr} {kdce : ClassId} {eed : Addr} {keed : ClassId} {mroa : Addr} {mral : Addr} {mrul : Addr} {mrur : Addr}
section Words
variable (G : GL l Z a0 zc dce kdce eed keed mroa mral mrul mrur)
def sg10 := G.2.1
def hzc := G.2.2.1
def hEW := G.2.2.2.1
def sg8 := G.2.2.2.2.1
def sg0 := G.2.2.2.2.2.1
def sg2 := G.2.2.2.2.2.2.1
def sg9 := G.2.2.2.2.2.2.2.1
def sg1 := G.2.2.2.2.2.2.2.2.1
def sg3 := G.2.2.2.2.2.2.2.2.2.1
def sg5 := G.2.2.2.2.2.2.2.2.2.2.1
def sg4 := G.2.2.2.2.2.2.2.2.2.2.2.1
def sg6 := G.2.2.2.2.2.2.2.2.2.2.2.2.1
def sg7 := G.2.2.2.2.2.2.2.2.2.2.2.2.2
def w0 := G.1 _ (wm (i := 0) rfl)
def w1 := G.1 _ (wm (i := 1) rfl)
def w2 := G.1 _ (wm (i := 2) rfl)
def w3 := G.1 _ (wm (i := 3) rfl)
def w4 := G.1 _ (wm (i := 4) rfl)
def w5 := G.1 _ (wm (i := 5) rfl)
def w6 := G.1 _ (wm (i := 6) rfl)
def w7 := G.1 _ (wm (i := 7) rfl)
def w8 := G.1 _ (wm (i := 8) rfl)
def w9 := G.1 _ (wm (i := 9) rfl)
def w10 := G.1 _ (wm (i := 10) rfl)
def w11 := G.1 _ (wm (i := 11) rfl)
def w12 := G.1 _ (wm (i := 12) rfl)
def w13 := G.1 _ (wm (i := 13) rfl)
def w14 := G.1 _ (wm (i := 14) rfl)
def w15 := G.1 _ (wm (i := 15) rfl)
def w16 := G.1 _ (wm (i := 16) rfl)
def w18 := G.1 _ (wm (i := 18) rfl)
def w19 := G.1 _ (wm (i := 19) rfl)
def w20 := G.1 _ (wm (i := 20) rfl)
def w21 := G.1 _ (wm (i := 21) rfl)
def w22 := G.1 _ (wm (i := 22) rfl)
def w23 := G.1 _ (wm (i := 23) rfl)
def w24 := G.1 _ (wm (i := 24) rfl)
def w25 := G.1 _ (wm (i := 25) rfl)
def w26 := G.1 _ (wm (i := 26) rfl)
def w27 := G.1 _ (wm (i := 27) rfl)
def w28 := G.1 _ (wm (i := 28) rfl)
def w29 := G.1 _ (wm (i := 29) rfl)
def w30 := G.1 _ (wm (i := 30) rfl)
def w31 := G.1 _ (wm (i := 31) rfl)
def w32 := G.1 _ (wm (i := 32) rfl)
def w33 := G.1 _ (wm (i := 33) rfl)
def w34 := G.1 _ (wm (i := 34) rfl)
def w35 := G.1 _ (wm (i := 35) rfl)
def w36 := G.1 _ (wm (i := 36) rfl)
def w37 := G.1 _ (wm (i := 37) rfl)
def w38 := G.1 _ (wm (i := 38) rfl)
def w39 := G.1 _ (wm (i := 39) rfl)
def w40 := G.1 _ (wm (i := 40) rfl)
def w41 := G.1 _ (wm (i := 41) rfl)
def w42 := G.1 _ (wm (i := 42) rfl)
def w43 := G.1 _ (wm (i := 43) rfl)
def w44 := G.1 _ (wm (i := 44) rfl)
def w45 := G.1 _ (wm (i := 45) rfl)
def w46 := G.1 _ (wm (i := 46) rfl)
def w47 := G.1 _ (wm (i := 47) rfl)
def w48 := G.1 _ (wm (i := 48) rfl)
def w49 := G.1 _ (wm (i := 49) rfl)
def w50 := G.1 _ (wm (i := 50) rfl)
def w51 := G.1 _ (wm (i := 51) rfl)
def w52 := G.1 _ (wm (i := 52) rfl)
def w53 := G.1 _ (wm (i := 53) rfl)
def w54 := G.1 _ (wm (i := 54) rfl)
def w55 := G.1 _ (wm (i := 55) rfl)
def w58 := G.1 _ (wm (i := 58) rfl)
def w59 := G.1 _ (wm (i := 59) rfl)
def w60 := G.1 _ (wm (i := 60) rfl)
def w61 := G.1 _ (wm (i := 61) rfl)
def w64 := G.1 _ (wm (i := 64) rfl)
def w65 := G.1 _ (wm (i := 65) rfl)
def w66 := G.1 _ (wm (i := 66) rfl)
def w67 := G.1 _ (wm (i := 67) rfl)
def w68 := G.1 _ (wm (i := 68) rfl)
def w69 := G.1 _ (wm (i := 69) rfl)
def w70 := G.1 _ (wm (i := 70) rfl)
def w71 := G.1 _ (wm (i := 71) rfl)
def w72 := G.1 _ (wm (i := 72) rfl)
def w73 := G.1 _ (wm (i := 73) rfl)
def w74 := G.1 _ (wm (i := 74) rfl)
def w75 := G.1 _ (wm (i := 75) rfl)
def w76 := G.1 _ (wm (i := 76) rfl)
def w77 := G.1 _ (wm (i := 77) rfl)
def w78 := G.1 _ (wm (i := 78) rfl)
def w79 := G.1 _ (wm (i := 79) rfl)
def w80 := G.1 _ (wm (i := 80) rfl)
def w81 := G.1 _ (wm (i := 81) rfl)
def w82 := G.1 _ (wm (i := 82) rfl)
def w83 := G.1 _ (wm (i := 83) rfl)
def w84 := G.1 _ (wm (i := 84) rfl)
def w85 := G.1 _ (wm (i := 85) rfl)
def w86 := G.1 _ (wm (i := 86) rfl)
def w87 := G.1 _ (wm (i := 87) rfl)
def w88 := G.1 _ (wm (i := 88) rfl)
def w89 := G.1 _ (wm (i := 89) rfl)
def w90 := G.1 _ (wm (i := 90) rfl)
def w91 := G.1 _ (wm (i := 91) rfl)
def w92 := G.1 _ (wm (i := 92) rfl)
def w93 := G.1 _ (wm (i := 93) rfl)
def w94 := G.1 _ (wm (i := 94) rfl)
def w95 := G.1 _ (wm (i := 95) rfl)
def w96 := G.1 _ (wm (i := 96) rfl)
def w97 := G.1 _ (wm (i := 97) rfl)
def w98 := G.1 _ (wm (i := 98) rfl)
def w99 := G.1 _ (wm (i := 99) rfl)
def w100 := G.1 _ (wm (i := 100) rfl)
def w101 := G.1 _ (wm (i := 101) rfl)
def w102 := G.1 _ (wm (i := 102) rfl)
def w103 := G.1 _ (wm (i := 103) rfl)
def w104 := G.1 _ (wm (i := 104) rfl)
def w106 := G.1 _ (wm (i := 106) rfl)
def w107 := G.1 _ (wm (i := 107) rfl)
def w108 := G.1 _ (wm (i := 108) rfl)
def w109 := G.1 _ (wm (i := 109) rfl)
def w110 := G.1 _ (wm (i := 110) rfl)
def w111 := G.1 _ (wm (i := 111) rfl)
def w112 := G.1 _ (wm (i := 112) rfl)
def w113 := G.1 _ (wm (i := 113) rfl)
def w114 := G.1 _ (wm (i := 114) rfl)
def w115 := G.1 _ (wm (i := 115) rfl)
def w116 := G.1 _ (wm (i := 116) rfl)
def w117 := G.1 _ (wm (i := 117) rfl)
def w118 := G.1 _ (wm (i := 118) rfl)
def w119 := G.1 _ (wm (i := 119) rfl)
def w120 := G.1 _ (wm (i := 120) rfl)
def w121 := G.1 _ (wm (i := 121) rfl)
def w122 := G.1 _ (wm (i := 122) rfl)
def w123 := G.1 _ (wm (i := 123) rfl)
def w124 := G.1 _ (wm (i := 124) rfl)
def w125 := G.1 _ (wm (i := 125) rfl)
def w126 := G.1 _ (wm (i := 126) rfl)
def w127 := G.1 _ (wm (i := 127) rfl)
def w128 := G.1 _ (wm (i := 128) rfl)
def w129 := G.1 _ (wm (i := 129) rfl)
def w130 := G.1 _ (wm (i := 130) rfl)
def w132 := G.1 _ (wm (i := 132) rfl)
def w134 := G.1 _ (wm (i := 134) rfl)
def w135 := G.1 _ (wm (i := 135) rfl)
def w137 := G.1 _ (wm (i := 137) rfl)
def w138 := G.1 _ (wm (i := 138) rfl)
def w139 := G.1 _ (wm (i := 139) rfl)
def w140 := G.1 _ (wm (i := 140) rfl)
def w141 := G.1 _ (wm (i := 141) rfl)
def w142 := G.1 _ (wm (i := 142) rfl)
def w143 := G.1 _ (wm (i := 143) rfl)
def w144 := G.1 _ (wm (i := 144) rfl)
def w145 := G.1 _ (wm (i := 145) rfl)
def w148 := G.1 _ (wm (i := 148) rfl)
def w149 := G.1 _ (wm (i := 149) rfl)
def w150 := G.1 _ (wm (i := 150) rfl)
def w151 := G.1 _ (wm (i := 151) rfl)
def w154 := G.1 _ (wm (i := 154) rfl)
def w155 := G.1 _ (wm (i := 155) rfl)
def w156 := G.1 _ (wm (i := 156) rfl)
def w157 := G.1 _ (wm (i := 157) rfl)
def w158 := G.1 _ (wm (i := 158) rfl)
def w159 := G.1 _ (wm (i := 159) rfl)
def w160 := G.1 _ (wm (i := 160) rfl)
def w161 := G.1 _ (wm (i := 161) rfl)
def w162 := G.1 _ (wm (i := 162) rfl)
def w163 := G.1 _ (wm (i := 163) rfl)
def w164 := G.1 _ (wm (i := 164) rfl)
def w165 := G.1 _ (wm (i := 165) rfl)
def w166 := G.1 _ (wm (i := 166) rfl)
def w167 := G.1 _ (wm (i := 167) rfl)
def w168 := G.1 _ (wm (i := 168) rfl)
def w169 := G.1 _ (wm (i := 169) rfl)
def w170 := G.1 _ (wm (i := 170) rfl)
def w171 := G.1 _ (wm (i := 171) rfl)
def w172 := G.1 _ (wm (i := 172) rfl)
def w173 := G.1 _ (wm (i := 173) rfl)
def w174 := G.1 _ (wm (i := 174) rfl)
def w175 := G.1 _ (wm (i := 175) rfl)
def w178 := G.1 _ (wm (i := 178) rfl)
def w179 := G.1 _ (wm (i := 179) rfl)
def w180 := G.1 _ (wm (i := 180) rfl)
def w181 := G.1 _ (wm (i := 181) rfl)
def w182 := G.1 _ (wm (i := 182) rfl)
def w183 := G.1 _ (wm (i := 183) rfl)
def w184 := G.1 _ (wm (i := 184) rfl)
def w185 := G.1 _ (wm (i := 185) rfl)
def w186 := G.1 _ (wm (i := 186) rfl)
def w187 := G.1 _ (wm (i := 187) rfl)
def w188 := G.1 _ (wm (i := 188) rfl)
def w189 := G.1 _ (wm (i := 189) rfl)
def w190 := G.1 _ (wm (i := 190) rfl)
def w191 := G.1 _ (wm (i := 191) rfl)
def w192 := G.1 _ (wm (i := 192) rfl)
def w193 := G.1 _ (wm (i := 193) rfl)
def w195 := G.1 _ (wm (i := 195) rfl)
def w196 := G.1 _ (wm (i := 196) rfl)
def w197 := G.1 _ (wm (i := 197) rfl)
def w198 := G.1 _ (wm (i := 198) rfl)
def w199 := G.1 _ (wm (i := 199) rfl)
def w200 := G.1 _ (wm (i := 200) rfl)
def w201 := G.1 _ (wm (i := 201) rfl)
def w202 := G.1 _ (wm (i := 202) rfl)
def w203 := G.1 _ (wm (i := 203) rfl)
def w204 := G.1 _ (wm (i := 204) rfl)
def w205 := G.1 _ (wm (i := 205) rfl)
def w206 := G.1 _ (wm (i := 206) rfl)
def w207 := G.1 _ (wm (i := 207) rfl)
def w208 := G.1 _ (wm (i := 208) rfl)
def w209 := G.1 _ (wm (i := 209) rfl)
def w211 := G.1 _ (wm (i := 211) rfl)
def w212 := G.1 _ (wm (i := 212) rfl)
def w213 := G.1 _ (wm (i := 213) rfl)
def w214 := G.1 _ (wm (i := 214) rfl)
def w216 := G.1 _ (wm (i := 216) rfl)
def w217 := G.1 _ (wm (i := 217) rfl)
def w218 := G.1 _ (wm (i := 218) rfl)
def w219 := G.1 _ (wm (i := 219) rfl)
def w221 := G.1 _ (wm (i := 221) rfl)
def w222 := G.1 _ (wm (i := 222) rfl)
def w223 := G.1 _ (wm (i := 223) rfl)
def w224 := G.1 _ (wm (i := 224) rfl)
def w225 := G.1 _ (wm (i := 225) rfl)
def w226 := G.1 _ (wm (i := 226) rfl)
def w227 := G.1 _ (wm (i := 227) rfl)
def w228 := G.1 _ (wm (i := 228) rfl)
def w229 := G.1 _ (wm (i := 229) rfl)
def w230 := G.1 _ (wm (i := 230) rfl)
def w233 := G.1 _ (wm (i := 233) rfl)
def w234 := G.1 _ (wm (i := 234) rfl)
def w235 := G.1 _ (wm (i := 235) rfl)
def w236 := G.1 _ (wm (i := 236) rfl)
def w237 := G.1 _ (wm (i := 237) rfl)
def w238 := G.1 _ (wm (i := 238) rfl)
def w239 := G.1 _ (wm (i := 239) rfl)
def w240 := G.1 _ (wm (i := 240) rfl)
def w241 := G.1 _ (wm (i := 241) rfl)
def w242 := G.1 _ (wm (i := 242) rfl)
def w244 := G.1 _ (wm (i := 244) rfl)
def w245 := G.1 _ (wm (i := 245) rfl)
def w246 := G.1 _ (wm (i := 246) rfl)
def w247 := G.1 _ (wm (i := 247) rfl)
def w248 := G.1 _ (wm (i := 248) rfl)
def w249 := G.1 _ (wm (i := 249) rfl)
def w250 := G.1 _ (wm (i := 250) rfl)
def w251 := G.1 _ (wm (i := 251) rfl)
def w252 := G.1 _ (wm (i := 252) rfl)
def w253 := G.1 _ (wm (i := 253) rfl)
def w254 := G.1 _ (wm (i := 254) rfl)
def w255 := G.1 _ (wm (i := 255) rfl)
def w256 := G.1 _ (wm (i := 256) rfl)
def w257 := G.1 _ (wm (i := 257) rfl)
def w258 := G.1 _ (wm (i := 258) rfl)
def w259 := G.1 _ (wm (i := 259) rfl)
def w260 := G.1 _ (wm (i := 260) rfl)
def w261 := G.1 _ (wm (i := 261) rfl)
def w262 := G.1 _ (wm (i := 262) rfl)
def w263 := G.1 _ (wm (i := 263) rfl)
def w265 := G.1 _ (wm (i := 265) rfl)
def w266 := G.1 _ (wm (i := 266) rfl)
def w267 := G.1 _ (wm (i := 267) rfl)
def w268 := G.1 _ (wm (i := 268) rfl)
def w269 := G.1 _ (wm (i := 269) rfl)
def w270 := G.1 _ (wm (i := 270) rfl)
def w271 := G.1 _ (wm (i := 271) rfl)
def w272 := G.1 _ (wm (i := 272) rfl)
def w273 := G.1 _ (wm (i := 273) rfl)
def w274 := G.1 _ (wm (i := 274) rfl)
def w275 := G.1 _ (wm (i := 275) rfl)
def w276 := G.1 _ (wm (i := 276) rfl)
def w277 := G.1 _ (wm (i := 277) rfl)
def w278 := G.1 _ (wm (i := 278) rfl)
def w279 := G.1 _ (wm (i := 279) rfl)
def w280 := G.1 _ (wm (i := 280) rfl)
def w281 := G.1 _ (wm (i := 281) rfl)
def w282 := G.1 _ (wm (i := 282) rfl)
def w283 := G.1 _ (wm (i := 283) rfl)
def w284 := G.1 _ (wm (i := 284) rfl)
def w285 := G.1 _ (wm (i := 285) rfl)
def w286 := G.1 _ (wm (i := 286) rfl)
def w287 := G.1 _ (wm (i := 287) rfl)
def w288 := G.1 _ (wm (i := 288) rfl)
def w289 := G.1 _ (wm (i := 289) rfl)
def w290 := G.1 _ (wm (i := 290) rfl)
def w291 := G.1 _ (wm (i := 291) rfl)
def w292 := G.1 _ (wm (i := 292) rfl)
def w293 := G.1 _ (wm (i := 293) rfl)
def w294 := G.1 _ (wm (i := 294) rfl)
def w295 := G.1 _ (wm (i := 295) rfl)
def w296 := G.1 _ (wm (i := 296) rfl)
def w297 := G.1 _ (wm (i := 297) rfl)
def w298 := G.1 _ (wm (i := 298) rfl)
def w299 := G.1 _ (wm (i := 299) rfl)
def w300 := G.1 _ (wm (i := 300) rfl)
def w301 := G.1 _ (wm (i := 301) rfl)
def w302 := G.1 _ (wm (i := 302) rfl)
def w303 := G.1 _ (wm (i := 303) rfl)
def w304 := G.1 _ (wm (i := 304) rfl)
def w305 := G.1 _ (wm (i := 305) rfl)
def w306 := G.1 _ (wm (i := 306) rfl)
def w307 := G.1 _ (wm (i := 307) rfl)
def w308 := G.1 _ (wm (i := 308) rfl)
def w309 := G.1 _ (wm (i := 309) rfl)
def w310 := G.1 _ (wm (i := 310) rfl)
def w311 := G.1 _ (wm (i := 311) rfl)
def w312 := G.1 _ (wm (i := 312) rfl)
def w313 := G.1 _ (wm (i := 313) rfl)
def w314 := G.1 _ (wm (i := 314) rfl)
def w315 := G.1 _ (wm (i := 315) rfl)
def w316 := G.1 _ (wm (i := 316) rfl)
def w317 := G.1 _ (wm (i := 317) rfl)
def w318 := G.1 _ (wm (i := 318) rfl)
def w319 := G.1 _ (wm (i := 319) rfl)
def w320 := G.1 _ (wm (i := 320) rfl)
def w321 := G.1 _ (wm (i := 321) rfl)
def w322 := G.1 _ (wm (i := 322) rfl)
def w323 := G.1 _ (wm (i := 323) rfl)
def w324 := G.1 _ (wm (i := 324) rfl)
def w325 := G.1 _ (wm (i := 325) rfl)
def w326 := G.1 _ (wm (i := 326) rfl)
def w327 := G.1 _ (wm (i := 327) rfl)
def w328 := G.1 _ (wm (i := 328) rfl)
def w329 := G.1 _ (wm (i := 329) rfl)
def w330 := G.1 _ (wm (i := 330) rfl)
def w331 := G.1 _ (wm (i := 331) rfl)
def w332 := G.1 _ (wm (i := 332) rfl)
def w333 := G.1 _ (wm (i := 333) rfl)
def w334 := G.1 _ (wm (i := 334) rfl)
def w335 := G.1 _ (wm (i := 335) rfl)
def w336 := G.1 _ (wm (i := 336) rfl)
def w337 := G.1 _ (wm (i := 337) rfl)
def w338 := G.1 _ (wm (i := 338) rfl)
def w339 := G.1 _ (wm (i := 339) rfl)
def w340 := G.1 _ (wm (i := 340) rfl)
def w341 := G.1 _ (wm (i := 341) rfl)
def w342 := G.1 _ (wm (i := 342) rfl)
def w343 := G.1 _ (wm (i := 343) rfl)
def w345 := G.1 _ (wm (i := 345) rfl)
def w346 := G.1 _ (wm (i := 346) rfl)
def w347 := G.1 _ (wm (i := 347) rfl)
def w348 := G.1 _ (wm (i := 348) rfl)
def w350 := G.1 _ (wm (i := 350) rfl)
def w351 := G.1 _ (wm (i := 351) rfl)
def w352 := G.1 _ (wm (i := 352) rfl)
def w353 := G.1 _ (wm (i := 353) rfl)
def w355 := G.1 _ (wm (i := 355) rfl)
def w356 := G.1 _ (wm (i := 356) rfl)
def w357 := G.1 _ (wm (i := 357) rfl)
def w358 := G.1 _ (wm (i := 358) rfl)
def w359 := G.1 _ (wm (i := 359) rfl)
def w360 := G.1 _ (wm (i := 360) rfl)
def w361 := G.1 _ (wm (i := 361) rfl)
def w362 := G.1 _ (wm (i := 362) rfl)
def w363 := G.1 _ (wm (i := 363) rfl)
def w364 := G.1 _ (wm (i := 364) rfl)
def w365 := G.1 _ (wm (i := 365) rfl)
def w366 := G.1 _ (wm (i := 366) rfl)
def w367 := G.1 _ (wm (i := 367) rfl)
def w369 := G.1 _ (wm (i := 369) rfl)
def w370 := G.1 _ (wm (i := 370) rfl)
def w371 := G.1 _ (wm (i := 371) rfl)
def w372 := G.1 _ (wm (i := 372) rfl)
def w373 := G.1 _ (wm (i := 373) rfl)
def w374 := G.1 _ (wm (i := 374) rfl)
def w375 := G.1 _ (wm (i := 375) rfl)
def w377 := G.1 _ (wm (i := 377) rfl)
def w378 := G.1 _ (wm (i := 378) rfl)
def w379 := G.1 _ (wm (i := 379) rfl)
def w380 := G.1 _ (wm (i := 380) rfl)
def w381 := G.1 _ (wm (i := 381) rfl)
def w382 := G.1 _ (wm (i := 382) rfl)
def w383 := G.1 _ (wm (i := 383) rfl)
def w384 := G.1 _ (wm (i := 384) rfl)
def w385 := G.1 _ (wm (i := 385) rfl)
def w386 := G.1 _ (wm (i := 386) rfl)
def w387 := G.1 _ (wm (i := 387) rfl)
def w388 := G.1 _ (wm (i := 388) rfl)
def w389 := G.1 _ (wm (i := 389) rfl)
def w390 := G.1 _ (wm (i := 390) rfl)
def w391 := G.1 _ (wm (i := 391) rfl)
def w392 := G.1 _ (wm (i := 392) rfl)
def w393 := G.1 _ (wm (i := 393) rfl)
def w394 := G.1 _ (wm (i := 394) rfl)
def w395 := G.1 _ (wm (i := 395) rfl)
def w396 := G.1 _ (wm (i := 396) rfl)
def w397 := G.1 _ (wm (i := 397) rfl)
def w398 := G.1 _ (wm (i := 398) rfl)
theorem ef0 {x0 : Int32} {x1 : Int32} {x2 : Int32} {x3 : Int32} {x4 : Int32} (m : MethodId) : entryFrame m #[(.int x0), (.int x1), (.int x2), (.int x3), (.int x4)] maxLocals = mkF m 0 #[.val (.int x0), .val (.int x1), .val (.int x2), .val (.int x3), .val (.int x4), .unset, .unset, .unset, .unset, .unset, .unset, .unset, .unset, .unset, .unset, .unset, .unset, .unset] [] := by simp [entryFrame, mkF, argsToLocals, Value.category, maxLocals]
theorem pn_com_example_row_lease_rowlease_model_VersionGroupToStringPinLaw : plainName "com/example/row_lease/rowlease/model/VersionGroupToStringPinLaw" = true := by first | decide +kernel | (simp [plainName, overriddenIn]; done)
theorem B0 : BI x "com/example/row_lease/rowlease/model/VersionGroupToStringPinLaw" "law" := ⟨(plainFor_of_name pn_com_example_row_lease_rowlease_model_VersionGroupToStringPinLaw), rfl, rfl⟩
theorem ef1 {x0 : Int32} (m : MethodId) : entryFrame m #[(.int x0)] 1 = mkF m 0 #[.val (.int x0)] [] := by simp [entryFrame, mkF, argsToLocals, Value.category, maxLocals]
theorem pn_java_lang_String : plainName "java/lang/String" = true := by first | decide +kernel | (simp [plainName, overriddenIn]; done)
abbrev y0 : MethodName := ⟨"java/lang/String", "valueOf", "(C)Ljava/lang/String;"⟩
theorem B1 : BI y0 "java/lang/String" "valueOf" := ⟨(plainFor_of_name pn_java_lang_String), rfl, rfl⟩
abbrev c1 := jdk_42_method_139_code
theorem d1_0 : DC c1 0 (.getstatic 38) 3 := by decide +kernel
theorem d1_3 : DC c1 3 (.ifCond .eq 23) 3 := by decide +kernel
theorem d1_6 : DC c1 6 (.iload_n 0) 1 := by decide +kernel
theorem d1_7 : DC c1 7 (.invokestatic 1015) 3 := by decide +kernel
theorem pn_java_lang_StringLatin1 : plainName "java/lang/StringLatin1" = true := by first | decide +kernel | (simp [plainName, overriddenIn]; done)
abbrev y1 : MethodName := ⟨"java/lang/StringLatin1", "canEncode", "(C)Z"⟩
theorem B2 : BI y1 "java/lang/StringLatin1" "canEncode" := ⟨(plainFor_of_name pn_java_lang_StringLatin1), rfl, rfl⟩
abbrev c2 := jdk_43_method_3_code
theorem d2_0 : DC c2 0 (.iload_n 0) 1 := by decide +kernel
theorem d2_1 : DC c2 1 (.sipush 255) 3 := by decide +kernel
theorem d2_4 : DC c2 4 (.if_icmp .gt 7) 3 := by decide +kernel
theorem d2_7 : DC c2 7 (.iconst 1) 1 := by decide +kernel
theorem d2_8 : DC c2 8 (.goto 4) 3 := by decide +kernel
theorem d2_12 : DC c2 12 .ireturn 1 := by decide +kernel
abbrev M2 := MM y1 c2 1 (some .boolean)
theorem pd_0 : parseMethodDescriptor "(C)Z" = some ⟨[.char], (some .boolean)⟩ := by decide +kernel
def u0 : WS_static Z a0 "java/lang/String" 1015 y1 c2 1 (some .boolean) 1 := ⟨(w5 G), (w6 G), (w7 G), (w8 G), by decide +kernel, lenN pd_0 rfl⟩
theorem d1_10 : DC c1 10 (.ifCond .eq 16) 3 := by decide +kernel
theorem d1_13 : DC c1 13 (.new 10) 3 := by decide +kernel
theorem fd_0 : parseFieldDescriptor "[B" = some (.array .byte) := by decide +kernel
theorem fd_1 : parseFieldDescriptor "B" = some .byte := by decide +kernel
theorem d1_16 : DC c1 16 .dup 1 := by decide +kernel
theorem d1_17 : DC c1 17 (.iload_n 0) 1 := by decide +kernel
theorem d1_18 : DC c1 18 (.invokestatic 1018) 3 := by decide +kernel
abbrev y2 : MethodName := ⟨"java/lang/StringLatin1", "toBytes", "(C)[B"⟩
theorem B3 : BI y2 "java/lang/StringLatin1" "toBytes" := ⟨(plainFor_of_name pn_java_lang_StringLatin1), rfl, rfl⟩
abbrev c3 := jdk_43_method_46_code
theorem d3_0 : DC c3 0 (.iconst 1) 1 := by decide +kernel
theorem d3_1 : DC c3 1 (.newarray .byte) 2 := by decide +kernel
theorem d3_3 : DC c3 3 .dup 1 := by decide +kernel
theorem d3_4 : DC c3 4 (.iconst 0) 1 := by decide +kernel
theorem d3_5 : DC c3 5 (.iload_n 0) 1 := by decide +kernel
theorem d3_6 : DC c3 6 .i2b 1 := by decide +kernel
theorem d3_7 : DC c3 7 .bastore 1 := by decide +kernel
theorem d3_8 : DC c3 8 .areturn 1 := by decide +kernel
abbrev M3 := MM y2 c3 1 (some (.array .byte))
theorem pd_1 : parseMethodDescriptor "(C)[B" = some ⟨[.char], (some (.array .byte))⟩ := by decide +kernel
def u1 : WS_static Z a0 "java/lang/String" 1018 y2 c3 1 (some (.array .byte)) 1 := ⟨(w11 G), (w12 G), (w7 G), (w13 G), by decide +kernel, lenN pd_1 rfl⟩
theorem d1_21 : DC c1 21 (.iconst 0) 1 := by decide +kernel
theorem d1_22 : DC c1 22 (.invokespecial 209) 3 := by decide +kernel
theorem ef2 {x0 : Addr} {x1 : Addr} {x2 : Int32} (m : MethodId) : entryFrame m #[(.ref x0), (.ref x1), (.int x2)] 3 = mkF m 0 #[.val (.ref x0), .val (.ref x1), .val (.int x2)] [] := by simp [entryFrame, mkF, argsToLocals, Value.category, maxLocals]
abbrev y3 : MethodName := ⟨"java/lang/String", "<init>", "([BB)V"⟩
theorem B4 : BI y3 "java/lang/String" "<init>" := ⟨(plainFor_of_name pn_java_lang_String), rfl, rfl⟩
abbrev c4 := jdk_42_method_151_code
theorem d4_0 : DC c4 0 (.aload_n 0) 1 := by decide +kernel
theorem d4_1 : DC c4 1 (.invokespecial 1) 3 := by decide +kernel
theorem d4_4 : DC c4 4 (.aload_n 0) 1 := by decide +kernel
theorem d4_5 : DC c4 5 (.aload_n 1) 1 := by decide +kernel
theorem d4_6 : DC c4 6 (.putfield 9) 3 := by decide +kernel
theorem d4_9 : DC c4 9 (.aload_n 0) 1 := by decide +kernel
theorem d4_10 : DC c4 10 (.iload_n 2) 1 := by decide +kernel
theorem d4_11 : DC c4 11 (.putfield 15) 3 := by decide +kernel
def sn0 := slot_ne (Or.inr (w25 G)) (Or.inr (w23 G)) (by decide +kernel) (t := .byte) (t' := (.array .byte)) fd_1 fd_0
theorem d4_14 : DC c4 14 .return_ 1 := by decide +kernel
def sn1 := slot_ne (Or.inr (w23 G)) (Or.inr (w25 G)) (by decide +kernel) (t := (.array .byte)) (t' := .byte) fd_0 fd_1
abbrev M4 := MM y3 c4 3 none
theorem pd_2 : parseMethodDescriptor "([BB)V" = some ⟨[(.array .byte), .byte], none⟩ := by decide +kernel
def u2 : WS_special Z a0 "java/lang/String" 209 y3 c4 3 2 := ⟨(w2 G), rfl, (w15 G), (w16 G), (w18 G), by decide +kernel, lenN pd_2 rfl⟩
theorem d1_25 : DC c1 25 .areturn 1 := by decide +kernel
abbrev M1 := MM y0 c1 1 (some (.object "java/lang/String"))
theorem pd_3 : parseMethodDescriptor "(C)Ljava/lang/String;" = some ⟨[.char], (some (.object "java/lang/String"))⟩ := by decide +kernel
def u3 : WS_static Z a0 "com/example/row_lease/rowlease/model/VersionGroupToStringPinLaw" 7 y0 c1 1 (some (.object "java/lang/String")) 1 := ⟨(w0 G), (w1 G), (w2 G), (w3 G), by decide +kernel, lenN pd_3 rfl⟩
theorem ef3 {x0 : Int32} {x1 : Int32} {x2 : Int32} {x3 : Int32} {x4 : Int32} (m : MethodId) : entryFrame m #[(.int x0), (.int x1), (.int x2), (.int x3), (.int x4)] 5 = mkF m 0 #[.val (.int x0), .val (.int x1), .val (.int x2), .val (.int x3), .val (.int x4)] [] := by simp [entryFrame, mkF, argsToLocals, Value.category, maxLocals]
abbrev y4 : MethodName := ⟨"com/example/row_lease/rowlease/model/VersionGroupToStringPinLaw", "expected", "(ICCCC)Ljava/lang/String;"⟩
theorem B5 : BI y4 "com/example/row_lease/rowlease/model/VersionGroupToStringPinLaw" "expected" := ⟨(plainFor_of_name pn_com_example_row_lease_rowlease_model_VersionGroupToStringPinLaw), rfl, rfl⟩
abbrev c5 := method_3_code
theorem d5_0 : DC c5 0 (.iload_n 0) 1 := by decide +kernel
theorem d5_1 : DC c5 1 (.ifCond .ne 33) 3 := by decide +kernel
theorem d5_4 : DC c5 4 (.new 8) 3 := by decide +kernel
theorem d5_7 : DC c5 7 .dup 1 := by decide +kernel
theorem d5_8 : DC c5 8 (.iconst 4) 1 := by decide +kernel
theorem d5_9 : DC c5 9 (.newarray .char) 2 := by decide +kernel
theorem d5_11 : DC c5 11 .dup 1 := by decide +kernel
theorem d5_12 : DC c5 12 (.iconst 0) 1 := by decide +kernel
theorem d5_13 : DC c5 13 (.iload_n 1) 1 := by decide +kernel
theorem d5_14 : DC c5 14 .castore 1 := by decide +kernel
theorem nc0 : "[C" ≠ "java/lang/String" ∧ "[C" ≠ "[B" := by decide +kernel
theorem d5_15 : DC c5 15 .dup 1 := by decide +kernel
theorem d5_16 : DC c5 16 (.iconst 1) 1 := by decide +kernel
theorem d5_17 : DC c5 17 (.bipush 32) 2 := by decide +kernel
theorem d5_19 : DC c5 19 .castore 1 := by decide +kernel
theorem d5_20 : DC c5 20 .dup 1 := by decide +kernel
theorem d5_21 : DC c5 21 (.iconst 2) 1 := by decide +kernel
theorem d5_22 : DC c5 22 (.bipush 91) 2 := by decide +kernel
theorem d5_24 : DC c5 24 .castore 1 := by decide +kernel
theorem d5_25 : DC c5 25 .dup 1 := by decide +kernel
theorem d5_26 : DC c5 26 (.iconst 3) 1 := by decide +kernel
theorem d5_27 : DC c5 27 (.bipush 93) 2 := by decide +kernel
theorem d5_29 : DC c5 29 .castore 1 := by decide +kernel
theorem d5_30 : DC c5 30 (.invokespecial 38) 3 := by decide +kernel
theorem ef4 {x0 : Addr} {x1 : Addr} (m : MethodId) : entryFrame m #[(.ref x0), (.ref x1)] 2 = mkF m 0 #[.val (.ref x0), .val (.ref x1)] [] := by simp [entryFrame, mkF, argsToLocals, Value.category, maxLocals]
abbrev y5 : MethodName := ⟨"java/lang/String", "<init>", "([C)V"⟩
theorem B6 : BI y5 "java/lang/String" "<init>" := ⟨(plainFor_of_name pn_java_lang_String), rfl, rfl⟩
abbrev c6 := jdk_42_method_3_code
theorem d6_0 : DC c6 0 (.aload_n 0) 1 := by decide +kernel
theorem d6_1 : DC c6 1 (.aload_n 1) 1 := by decide +kernel
theorem d6_2 : DC c6 2 (.iconst 0) 1 := by decide +kernel
theorem d6_3 : DC c6 3 (.aload_n 1) 1 := by decide +kernel
theorem d6_4 : DC c6 4 .arraylength 1 := by decide +kernel
theorem d6_5 : DC c6 5 .aconst_null 1 := by decide +kernel
theorem d6_6 : DC c6 6 (.invokespecial 27) 3 := by decide +kernel
theorem ef5 {x0 : Addr} {x1 : Addr} {x2 : Int32} {x3 : Int32} (m : MethodId) : entryFrame m #[(.ref x0), (.ref x1), (.int x2), (.int x3), .null] 6 = mkF m 0 #[.val (.ref x0), .val (.ref x1), .val (.int x2), .val (.int x3), .val .null, .unset] [] := by simp [entryFrame, mkF, argsToLocals, Value.category, maxLocals]
abbrev y6 : MethodName := ⟨"java/lang/String", "<init>", "([CIILjava/lang/Void;)V"⟩
theorem B7 : BI y6 "java/lang/String" "<init>" := ⟨(plainFor_of_name pn_java_lang_String), rfl, rfl⟩
abbrev c7 := jdk_42_method_149_code
theorem d7_0 : DC c7 0 (.aload_n 0) 1 := by decide +kernel
theorem d7_1 : DC c7 1 (.invokespecial 1) 3 := by decide +kernel
theorem d7_4 : DC c7 4 (.iload_n 3) 1 := by decide +kernel
theorem d7_5 : DC c7 5 (.ifCond .ne 22) 3 := by decide +kernel
theorem d7_27 : DC c7 27 (.getstatic 38) 3 := by decide +kernel
theorem d7_30 : DC c7 30 (.ifCond .eq 28) 3 := by decide +kernel
theorem d7_33 : DC c7 33 (.aload_n 1) 1 := by decide +kernel
theorem d7_34 : DC c7 34 (.iload_n 2) 1 := by decide +kernel
theorem d7_35 : DC c7 35 (.iload_n 3) 1 := by decide +kernel
theorem d7_36 : DC c7 36 (.invokestatic 177) 3 := by decide +kernel
theorem ef6 {x0 : Addr} {x1 : Int32} {x2 : Int32} (m : MethodId) : entryFrame m #[(.ref x0), (.int x1), (.int x2)] 6 = mkF m 0 #[.val (.ref x0), .val (.int x1), .val (.int x2), .unset, .unset, .unset] [] := by simp [entryFrame, mkF, argsToLocals, Value.category, maxLocals]
theorem pn_java_lang_StringUTF16 : plainName "java/lang/StringUTF16" = true := by first | decide +kernel | (simp [plainName, overriddenIn]; done)
abbrev y7 : MethodName := ⟨"java/lang/StringUTF16", "compress", "([CII)[B"⟩
theorem B8 : BI y7 "java/lang/StringUTF16" "compress" := ⟨(plainFor_of_name pn_java_lang_StringUTF16), rfl, rfl⟩
abbrev c8 := jdk_52_method_16_code
theorem d8_0 : DC c8 0 (.iload_n 2) 1 := by decide +kernel
theorem d8_1 : DC c8 1 (.newarray .byte) 2 := by decide +kernel
theorem d8_3 : DC c8 3 (.astore_n 3) 1 := by decide +kernel
theorem d8_4 : DC c8 4 (.aload_n 0) 1 := by decide +kernel
theorem d8_5 : DC c8 5 (.iload_n 1) 1 := by decide +kernel
theorem d8_6 : DC c8 6 (.aload_n 3) 1 := by decide +kernel
theorem d8_7 : DC c8 7 (.iconst 0) 1 := by decide +kernel
theorem d8_8 : DC c8 8 (.iload_n 2) 1 := by decide +kernel
theorem d8_9 : DC c8 9 (.invokestatic 115) 3 := by decide +kernel
theorem ef7 {x0 : Addr} {x1 : Int32} {x2 : Addr} {x3 : Int32} {x4 : Int32} (m : MethodId) : entryFrame m #[(.ref x0), (.int x1), (.ref x2), (.int x3), (.int x4)] 7 = mkF m 0 #[.val (.ref x0), .val (.int x1), .val (.ref x2), .val (.int x3), .val (.int x4), .unset, .unset] [] := by simp [entryFrame, mkF, argsToLocals, Value.category, maxLocals]
abbrev y8 : MethodName := ⟨"java/lang/StringUTF16", "compress", "([CI[BII)I"⟩
theorem B9 : BI y8 "java/lang/StringUTF16" "compress" := ⟨(plainFor_of_name pn_java_lang_StringUTF16), rfl, rfl⟩
abbrev c9 := jdk_52_method_21_code
theorem d9_0 : DC c9 0 (.iconst 0) 1 := by decide +kernel
theorem d9_1 : DC c9 1 (.istore 5) 2 := by decide +kernel
theorem d9_3 : DC c9 3 (.iload 5) 2 := by decide +kernel
theorem d9_5 : DC c9 5 (.iload 4) 2 := by decide +kernel
theorem d9_7 : DC c9 7 (.if_icmp .ge 37) 3 := by decide +kernel
theorem d9_10 : DC c9 10 (.aload_n 0) 1 := by decide +kernel
theorem d9_11 : DC c9 11 (.iload_n 1) 1 := by decide +kernel
theorem d9_12 : DC c9 12 .caload 1 := by decide +kernel
theorem d9_13 : DC c9 13 (.istore 6) 2 := by decide +kernel
theorem d9_15 : DC c9 15 (.iload 6) 2 := by decide +kernel
theorem d9_17 : DC c9 17 (.sipush 255) 3 := by decide +kernel
theorem d9_20 : DC c9 20 (.if_icmp .le 6) 3 := by decide +kernel
theorem d9_26 : DC c9 26 (.aload_n 2) 1 := by decide +kernel
theorem d9_27 : DC c9 27 (.iload_n 3) 1 := by decide +kernel
theorem d9_28 : DC c9 28 (.iload 6) 2 := by decide +kernel
theorem d9_30 : DC c9 30 .i2b 1 := by decide +kernel
theorem d9_31 : DC c9 31 .bastore 1 := by decide +kernel
theorem d9_32 : DC c9 32 (.iinc 1 1) 3 := by decide +kernel
theorem d9_35 : DC c9 35 (.iinc 3 1) 3 := by decide +kernel
theorem d9_38 : DC c9 38 (.iinc 5 1) 3 := by decide +kernel
theorem d9_41 : DC c9 41 (.goto (-38)) 3 := by decide +kernel
theorem d9_44 : DC c9 44 (.iload 4) 2 := by decide +kernel
theorem d9_46 : DC c9 46 .ireturn 1 := by decide +kernel
abbrev M9 := MM y8 c9 7 (some .int)
theorem pd_4 : parseMethodDescriptor "([CI[BII)I" = some ⟨[(.array .char), .int, (.array .byte), .int, .int], (some .int)⟩ := by decide +kernel
def u4 : WS_static Z a0 "java/lang/StringUTF16" 115 y8 c9 7 (some .int) 5 := ⟨(w42 G), (w43 G), (w40 G), (w44 G), by decide +kernel, lenN pd_4 rfl⟩
theorem d8_12 : DC c8 12 (.istore 4) 2 := by decide +kernel
theorem d8_14 : DC c8 14 (.iload 4) 2 := by decide +kernel
theorem d8_16 : DC c8 16 (.iload_n 2) 1 := by decide +kernel
theorem d8_17 : DC c8 17 (.if_icmp .eq 40) 3 := by decide +kernel
theorem d8_57 : DC c8 57 (.aload_n 3) 1 := by decide +kernel
theorem d8_58 : DC c8 58 .areturn 1 := by decide +kernel
abbrev M8 := MM y7 c8 6 (some (.array .byte))
theorem pd_5 : parseMethodDescriptor "([CII)[B" = some ⟨[(.array .char), .int, .int], (some (.array .byte))⟩ := by decide +kernel
def u5 : WS_static Z a0 "java/lang/String" 177 y7 c8 6 (some (.array .byte)) 3 := ⟨(w38 G), (w39 G), (w40 G), (w41 G), by decide +kernel, lenN pd_5 rfl⟩
theorem d7_39 : DC c7 39 (.astore 5) 2 := by decide +kernel
theorem d7_41 : DC c7 41 (.aload_n 0) 1 := by decide +kernel
theorem d7_42 : DC c7 42 (.aload 5) 2 := by decide +kernel
theorem d7_44 : DC c7 44 (.iload_n 3) 1 := by decide +kernel
theorem d7_45 : DC c7 45 (.invokestatic 47) 3 := by decide +kernel
theorem ef8 {x0 : Addr} {x1 : Int32} (m : MethodId) : entryFrame m #[(.ref x0), (.int x1)] 2 = mkF m 0 #[.val (.ref x0), .val (.int x1)] [] := by simp [entryFrame, mkF, argsToLocals, Value.category, maxLocals]
abbrev y9 : MethodName := ⟨"java/lang/StringUTF16", "coderFromArrayLen", "([BI)B"⟩
theorem B10 : BI y9 "java/lang/StringUTF16" "coderFromArrayLen" := ⟨(plainFor_of_name pn_java_lang_StringUTF16), rfl, rfl⟩
abbrev c10 := jdk_52_method_15_code
theorem d10_0 : DC c10 0 (.iload_n 1) 1 := by decide +kernel
theorem d10_1 : DC c10 1 (.aload_n 0) 1 := by decide +kernel
theorem d10_2 : DC c10 2 .arraylength 1 := by decide +kernel
theorem d10_3 : DC c10 3 .isub 1 := by decide +kernel
theorem d10_4 : DC c10 4 (.bipush 31) 2 := by decide +kernel
theorem d10_6 : DC c10 6 .iushr 1 := by decide +kernel
theorem d10_7 : DC c10 7 .i2b 1 := by decide +kernel
theorem d10_8 : DC c10 8 .ireturn 1 := by decide +kernel
abbrev M10 := MM y9 c10 2 (some .byte)
theorem pd_6 : parseMethodDescriptor "([BI)B" = some ⟨[(.array .byte), .int], (some .byte)⟩ := by decide +kernel
def u6 : WS_static Z a0 "java/lang/String" 47 y9 c10 2 (some .byte) 2 := ⟨(w45 G), (w46 G), (w40 G), (w47 G), by decide +kernel, lenN pd_6 rfl⟩
theorem d7_48 : DC c7 48 (.putfield 15) 3 := by decide +kernel
theorem d7_51 : DC c7 51 (.aload_n 0) 1 := by decide +kernel
theorem d7_52 : DC c7 52 (.aload 5) 2 := by decide +kernel
theorem d7_54 : DC c7 54 (.putfield 9) 3 := by decide +kernel
theorem d7_57 : DC c7 57 .return_ 1 := by decide +kernel
abbrev M7 := MM y6 c7 6 none
theorem pd_7 : parseMethodDescriptor "([CIILjava/lang/Void;)V" = some ⟨[(.array .char), .int, .int, (.object "java/lang/Void")], none⟩ := by decide +kernel
def u7 : WS_special Z a0 "java/lang/String" 27 y6 c7 6 4 := ⟨(w2 G), rfl, (w35 G), (w36 G), (w37 G), by decide +kernel, lenN pd_7 rfl⟩
theorem d6_9 : DC c6 9 .return_ 1 := by decide +kernel
abbrev M6 := MM y5 c6 2 none
theorem pd_8 : parseMethodDescriptor "([C)V" = some ⟨[(.array .char)], none⟩ := by decide +kernel
def u8 : WS_special Z a0 "com/example/row_lease/rowlease/model/VersionGroupToStringPinLaw" 38 y5 c6 2 1 := ⟨(w2 G), rfl, (w32 G), (w33 G), (w34 G), by decide +kernel, lenN pd_8 rfl⟩
theorem d5_33 : DC c5 33 .areturn 1 := by decide +kernel
abbrev M5 := MM y4 c5 5 (some (.object "java/lang/String"))
theorem pd_9 : parseMethodDescriptor "(ICCCC)Ljava/lang/String;" = some ⟨[.int, .char, .char, .char, .char], (some (.object "java/lang/String"))⟩ := by decide +kernel
def u9 : WS_static Z a0 "com/example/row_lease/rowlease/model/VersionGroupToStringPinLaw" 13 y4 c5 5 (some (.object "java/lang/String")) 5 := ⟨(w26 G), (w27 G), (w28 G), (w29 G), by decide +kernel, lenN pd_9 rfl⟩
theorem fd_2 : parseFieldDescriptor "I" = some .int := by decide +kernel
theorem fd_3 : parseFieldDescriptor "[Ljava/lang/Object;" = some (.array (.object "java/lang/Object")) := by decide +kernel
theorem ef9 {x0 : Addr} (m : MethodId) : entryFrame m #[(.ref x0)] 1 = mkF m 0 #[.val (.ref x0)] [] := by simp [entryFrame, mkF, argsToLocals, Value.category, maxLocals]
theorem pn_java_util_ArrayList : plainName "java/util/ArrayList" = true := by first | decide +kernel | (simp [plainName, overriddenIn]; done)
abbrev y10 : MethodName := ⟨"java/util/ArrayList", "<init>", "()V"⟩
theorem B11 : BI y10 "java/util/ArrayList" "<init>" := ⟨(plainFor_of_name pn_java_util_ArrayList), rfl, rfl⟩
abbrev c11 := jdk_38_method_2_code
theorem d11_0 : DC c11 0 (.aload_n 0) 1 := by decide +kernel
theorem d11_1 : DC c11 1 (.invokespecial 1) 3 := by decide +kernel
theorem pn_java_util_AbstractList : plainName "java/util/AbstractList" = true := by first | decide +kernel | (simp [plainName, overriddenIn]; done)
abbrev y11 : MethodName := ⟨"java/util/AbstractList", "<init>", "()V"⟩
theorem B12 : BI y11 "java/util/AbstractList" "<init>" := ⟨(plainFor_of_name pn_java_util_AbstractList), rfl, rfl⟩
abbrev c12 := jdk_39_method_1_code
theorem d12_0 : DC c12 0 (.aload_n 0) 1 := by decide +kernel
theorem d12_1 : DC c12 1 (.invokespecial 1) 3 := by decide +kernel
theorem pn_java_util_AbstractCollection : plainName "java/util/AbstractCollection" = true := by first | decide +kernel | (simp [plainName, overriddenIn]; done)
abbrev y12 : MethodName := ⟨"java/util/AbstractCollection", "<init>", "()V"⟩
theorem B13 : BI y12 "java/util/AbstractCollection" "<init>" := ⟨(plainFor_of_name pn_java_util_AbstractCollection), rfl, rfl⟩
abbrev c13 := jdk_22_method_1_code
theorem d13_0 : DC c13 0 (.aload_n 0) 1 := by decide +kernel
theorem d13_1 : DC c13 1 (.invokespecial 1) 3 := by decide +kernel
theorem d13_4 : DC c13 4 .return_ 1 := by decide +kernel
abbrev M13 := MM y12 c13 1 none
theorem pd_10 : parseMethodDescriptor "()V" = some ⟨[], none⟩ := by decide +kernel
def u10 : WS_special Z a0 "java/util/AbstractList" 1 y12 c13 1 0 := ⟨(w64 G), rfl, (w60 G), (w61 G), (w65 G), by decide +kernel, lenN pd_10 rfl⟩
theorem d12_4 : DC c12 4 (.aload_n 0) 1 := by decide +kernel
theorem d12_5 : DC c12 5 (.iconst 0) 1 := by decide +kernel
theorem d12_6 : DC c12 6 (.putfield 7) 3 := by decide +kernel
theorem nc1 : "java/util/ArrayList" ≠ "java/lang/String" ∧ "java/util/ArrayList" ≠ "[B" := by decide +kernel
theorem d12_9 : DC c12 9 .return_ 1 := by decide +kernel
def sn2 := slot_ne (Or.inl (w71 G)) (Or.inl (w68 G)) (by decide +kernel) (t := (.array (.object "java/lang/Object"))) (t' := .int) fd_3 fd_2
def sn3 := slot_ne (Or.inl (w95 G)) (Or.inl (w68 G)) (by decide +kernel) (t := .int) (t' := .int) fd_2 fd_2
abbrev M12 := MM y11 c12 1 none
def u11 : WS_special Z a0 "java/util/ArrayList" 1 y11 c12 1 0 := ⟨(w58 G), rfl, (w54 G), (w55 G), (w59 G), by decide +kernel, lenN pd_10 rfl⟩
theorem d11_4 : DC c11 4 (.aload_n 0) 1 := by decide +kernel
theorem d11_5 : DC c11 5 (.getstatic 39) 3 := by decide +kernel
theorem d11_8 : DC c11 8 (.putfield 9) 3 := by decide +kernel
theorem d11_11 : DC c11 11 .return_ 1 := by decide +kernel
def sn4 := slot_ne (Or.inl (w68 G)) (Or.inl (w71 G)) (by decide +kernel) (t := .int) (t' := (.array (.object "java/lang/Object"))) fd_2 fd_3
def sn5 := slot_ne (Or.inl (w95 G)) (Or.inl (w71 G)) (by decide +kernel) (t := .int) (t' := (.array (.object "java/lang/Object"))) fd_2 fd_3
abbrev M11 := MM y10 c11 1 none
def u12 : WS_special Z a0 "com/example/row_lease/rowlease/model/VersionGroupToStringPinLaw" 21 y10 c11 1 0 := ⟨(w50 G), rfl, (w51 G), (w52 G), (w53 G), by decide +kernel, lenN pd_10 rfl⟩
theorem fd_4 : parseFieldDescriptor "Ljava/lang/String;" = some (.object "java/lang/String") := by decide +kernel
theorem fd_5 : parseFieldDescriptor "Ljava/util/List;" = some (.object "java/util/List") := by decide +kernel
theorem ef10 {x0 : Addr} {x1 : Addr} {x2 : Addr} (m : MethodId) : entryFrame m #[(.ref x0), (.ref x1), (.ref x2)] 3 = mkF m 0 #[.val (.ref x0), .val (.ref x1), .val (.ref x2)] [] := by simp [entryFrame, mkF, argsToLocals, Value.category, maxLocals]
theorem pn_com_example_row_lease_rowlease_model_VersionGroup : plainName "com/example/row_lease/rowlease/model/VersionGroup" = true := by first | decide +kernel | (simp [plainName, overriddenIn]; done)
abbrev y13 : MethodName := ⟨"com/example/row_lease/rowlease/model/VersionGroup", "<init>", "(Ljava/lang/String;Ljava/util/List;)V"⟩
theorem B14 : BI y13 "com/example/row_lease/rowlease/model/VersionGroup" "<init>" := ⟨(plainFor_of_name pn_com_example_row_lease_rowlease_model_VersionGroup), rfl, rfl⟩
abbrev c14 := prog_25_method_1_code
theorem d14_0 : DC c14 0 (.aload_n 0) 1 := by decide +kernel
theorem d14_1 : DC c14 1 (.invokespecial 1) 3 := by decide +kernel
theorem d14_4 : DC c14 4 (.aload_n 0) 1 := by decide +kernel
theorem d14_5 : DC c14 5 (.aload_n 1) 1 := by decide +kernel
theorem d14_6 : DC c14 6 (.putfield 7) 3 := by decide +kernel
theorem nc2 : "com/example/row_lease/rowlease/model/VersionGroup" ≠ "java/lang/String" ∧ "com/example/row_lease/rowlease/model/VersionGroup" ≠ "[B" := by decide +kernel
theorem d14_9 : DC c14 9 (.aload_n 0) 1 := by decide +kernel
theorem d14_10 : DC c14 10 (.new 13) 3 := by decide +kernel
theorem d14_13 : DC c14 13 .dup 1 := by decide +kernel
theorem d14_14 : DC c14 14 (.aload_n 2) 1 := by decide +kernel
theorem d14_15 : DC c14 15 (.invokespecial 15) 3 := by decide +kernel
theorem ef11 {x0 : Addr} {x1 : Addr} (m : MethodId) : entryFrame m #[(.ref x0), (.ref x1)] 3 = mkF m 0 #[.val (.ref x0), .val (.ref x1), .unset] [] := by simp [entryFrame, mkF, argsToLocals, Value.category, maxLocals]
abbrev y14 : MethodName := ⟨"java/util/ArrayList", "<init>", "(Ljava/util/Collection;)V"⟩
theorem B15 : BI y14 "java/util/ArrayList" "<init>" := ⟨(plainFor_of_name pn_java_util_ArrayList), rfl, rfl⟩
abbrev c15 := jdk_38_method_3_code
theorem d15_0 : DC c15 0 (.aload_n 0) 1 := by decide +kernel
theorem d15_1 : DC c15 1 (.invokespecial 1) 3 := by decide +kernel
theorem d15_4 : DC c15 4 (.aload_n 1) 1 := by decide +kernel
theorem d15_5 : DC c15 5 (.invokeinterface 42 1) 5 := by decide +kernel
abbrev y15 : MethodName := ⟨"java/util/ArrayList", "toArray", "()[Ljava/lang/Object;"⟩
theorem B16 : BI y15 "java/util/ArrayList" "toArray" := ⟨(plainFor_of_name pn_java_util_ArrayList), rfl, rfl⟩
abbrev c16 := jdk_38_method_16_code
theorem d16_0 : DC c16 0 (.aload_n 0) 1 := by decide +kernel
theorem d16_1 : DC c16 1 (.getfield 9) 3 := by decide +kernel
theorem d16_4 : DC c16 4 (.aload_n 0) 1 := by decide +kernel
theorem d16_5 : DC c16 5 (.getfield 48) 3 := by decide +kernel
theorem d16_8 : DC c16 8 (.invokestatic 66) 3 := by decide +kernel
theorem pn_java_util_Arrays : plainName "java/util/Arrays" = true := by first | decide +kernel | (simp [plainName, overriddenIn]; done)
abbrev y16 : MethodName := ⟨"java/util/Arrays", "copyOf", "([Ljava/lang/Object;I)[Ljava/lang/Object;"⟩
theorem B17 : BI y16 "java/util/Arrays" "copyOf" := ⟨(plainFor_of_name pn_java_util_Arrays), rfl, rfl⟩
abbrev c17 := jdk_65_method_119_code
theorem d17_0 : DC c17 0 (.aload_n 0) 1 := by decide +kernel
theorem d17_1 : DC c17 1 (.iload_n 1) 1 := by decide +kernel
theorem d17_2 : DC c17 2 (.aload_n 0) 1 := by decide +kernel
theorem d17_3 : DC c17 3 (.invokevirtual 86) 3 := by decide +kernel
theorem d17_6 : DC c17 6 (.invokestatic 300) 3 := by decide +kernel
theorem ef12 {x0 : Addr} {x1 : Int32} {x2 : Addr} (m : MethodId) : entryFrame m #[(.ref x0), (.int x1), (.ref x2)] 4 = mkF m 0 #[.val (.ref x0), .val (.int x1), .val (.ref x2), .unset] [] := by simp [entryFrame, mkF, argsToLocals, Value.category, maxLocals]
abbrev y17 : MethodName := ⟨"java/util/Arrays", "copyOf", "([Ljava/lang/Object;ILjava/lang/Class;)[Ljava/lang/Object;"⟩
theorem B18 : BI y17 "java/util/Arrays" "copyOf" := ⟨(plainFor_of_name pn_java_util_Arrays), rfl, rfl⟩
abbrev c18 := jdk_65_method_120_code
theorem d18_0 : DC c18 0 (.aload_n 2) 1 := by decide +kernel
theorem d18_1 : DC c18 1 (.ldc 110) 2 := by decide +kernel
theorem d18_3 : DC c18 3 (.if_acmp .ne 10) 3 := by decide +kernel
theorem d18_6 : DC c18 6 (.iload_n 1) 1 := by decide +kernel
theorem d18_7 : DC c18 7 (.anewarray 2) 3 := by decide +kernel
theorem d18_10 : DC c18 10 (.goto 14) 3 := by decide +kernel
theorem d18_24 : DC c18 24 (.astore_n 3) 1 := by decide +kernel
theorem d18_25 : DC c18 25 (.aload_n 0) 1 := by decide +kernel
theorem d18_26 : DC c18 26 (.iconst 0) 1 := by decide +kernel
theorem d18_27 : DC c18 27 (.aload_n 3) 1 := by decide +kernel
theorem d18_28 : DC c18 28 (.iconst 0) 1 := by decide +kernel
theorem d18_29 : DC c18 29 (.aload_n 0) 1 := by decide +kernel
theorem d18_30 : DC c18 30 .arraylength 1 := by decide +kernel
theorem d18_31 : DC c18 31 (.iload_n 1) 1 := by decide +kernel
theorem d18_32 : DC c18 32 (.invokestatic 304) 3 := by decide +kernel
theorem ef13 {x0 : Int32} {x1 : Int32} (m : MethodId) : entryFrame m #[(.int x0), (.int x1)] 2 = mkF m 0 #[.val (.int x0), .val (.int x1)] [] := by simp [entryFrame, mkF, argsToLocals, Value.category, maxLocals]
theorem pf_19 : plainFor ⟨"java/lang/Math", "min", "(II)I"⟩ = true := by decide +kernel
abbrev y18 : MethodName := ⟨"java/lang/Math", "min", "(II)I"⟩
theorem B19 : BI y18 "java/lang/Math" "min" := ⟨pf_19, rfl, rfl⟩
abbrev c19 := jdk_29_method_69_code
theorem d19_0 : DC c19 0 (.iload_n 0) 1 := by decide +kernel
theorem d19_1 : DC c19 1 (.iload_n 1) 1 := by decide +kernel
theorem d19_2 : DC c19 2 (.if_icmp .gt 7) 3 := by decide +kernel
theorem d19_5 : DC c19 5 (.iload_n 0) 1 := by decide +kernel
theorem d19_6 : DC c19 6 (.goto 4) 3 := by decide +kernel
theorem d19_10 : DC c19 10 .ireturn 1 := by decide +kernel
abbrev M19 := MM y18 c19 2 (some .int)
theorem pd_11 : parseMethodDescriptor "(II)I" = some ⟨[.int, .int], (some .int)⟩ := by decide +kernel
def u13 : WS_static Z a0 "java/util/Arrays" 304 y18 c19 2 (some .int) 2 := ⟨(w112 G), (w113 G), (w114 G), (w115 G), by decide +kernel, lenN pd_11 rfl⟩
theorem d18_35 : DC c18 35 (.invokestatic 150) 3 := by decide +kernel
theorem nc3 : "[Ljava/lang/Object;" ≠ "java/lang/String" ∧ "[Ljava/lang/Object;" ≠ "[B" := by decide +kernel
theorem d18_38 : DC c18 38 (.aload_n 3) 1 := by decide +kernel
theorem d18_39 : DC c18 39 .areturn 1 := by decide +kernel
abbrev M18 := MM y17 c18 4 (some (.array (.object "java/lang/Object")))
theorem pd_12 : parseMethodDescriptor "([Ljava/lang/Object;ILjava/lang/Class;)[Ljava/lang/Object;" = some ⟨[(.array (.object "java/lang/Object")), .int, (.object "java/lang/Class")], (some (.array (.object "java/lang/Object")))⟩ := by decide +kernel
def u14 : WS_static Z a0 "java/util/Arrays" 300 y17 c18 4 (some (.array (.object "java/lang/Object"))) 3 := ⟨(w106 G), (w107 G), (w98 G), (w108 G), by decide +kernel, lenN pd_12 rfl⟩
theorem d17_9 : DC c17 9 .areturn 1 := by decide +kernel
abbrev M17 := MM y16 c17 2 (some (.array (.object "java/lang/Object")))
theorem pd_13 : parseMethodDescriptor "([Ljava/lang/Object;I)[Ljava/lang/Object;" = some ⟨[(.array (.object "java/lang/Object")), .int], (some (.array (.object "java/lang/Object")))⟩ := by decide +kernel
def u15 : WS_static Z a0 "java/util/ArrayList" 66 y16 c17 2 (some (.array (.object "java/lang/Object"))) 2 := ⟨(w96 G), (w97 G), (w98 G), (w99 G), by decide +kernel, lenN pd_13 rfl⟩
theorem d16_11 : DC c16 11 .areturn 1 := by decide +kernel
abbrev M16 := MM y15 c16 1 (some (.array (.object "java/lang/Object")))
theorem pd_14 : parseMethodDescriptor "()[Ljava/lang/Object;" = some ⟨[], (some (.array (.object "java/lang/Object")))⟩ := by decide +kernel
abbrev y19 : MethodName := ⟨"java/util/Collection", "toArray", "()[Ljava/lang/Object;"⟩
def u16 : WS_iface Z a0 "java/util/ArrayList" 42 "java/util/ArrayList" y19 y15 c16 1 (some (.array (.object "java/lang/Object"))) 0 := ⟨(w93 G), (w50 G), (w85 G), (w86 G), (w87 G), (w88 G), (w89 G), (w90 G), (w91 G), (w92 G), by first | rfl | simp [Cond.onTables, Cond.keepsFace, Cond.keeps, Cond.steady], by decide +kernel, lenN pd_14 rfl⟩
theorem d15_10 : DC c15 10 (.astore_n 2) 1 := by decide +kernel
theorem d15_11 : DC c15 11 (.aload_n 0) 1 := by decide +kernel
theorem d15_12 : DC c15 12 (.aload_n 2) 1 := by decide +kernel
theorem d15_13 : DC c15 13 .arraylength 1 := by decide +kernel
theorem d15_14 : DC c15 14 .dup_x1 1 := by decide +kernel
theorem d15_15 : DC c15 15 (.putfield 48) 3 := by decide +kernel
theorem d15_18 : DC c15 18 (.ifCond .eq 39) 3 := by decide +kernel
theorem d15_57 : DC c15 57 (.aload_n 0) 1 := by decide +kernel
theorem d15_58 : DC c15 58 (.getstatic 15) 3 := by decide +kernel
theorem d15_61 : DC c15 61 (.putfield 9) 3 := by decide +kernel
def sn6 := slot_ne (Or.inl (w71 G)) (Or.inl (w95 G)) (by decide +kernel) (t := (.array (.object "java/lang/Object"))) (t' := .int) fd_3 fd_2
theorem d15_64 : DC c15 64 .return_ 1 := by decide +kernel
def sn7 := slot_ne (Or.inl (w68 G)) (Or.inl (w95 G)) (by decide +kernel) (t := .int) (t' := .int) fd_2 fd_2
abbrev M15 := MM y14 c15 3 none
theorem pd_15 : parseMethodDescriptor "(Ljava/util/Collection;)V" = some ⟨[(.object "java/util/Collection")], none⟩ := by decide +kernel
def u17 : WS_special Z a0 "com/example/row_lease/rowlease/model/VersionGroup" 15 y14 c15 3 1 := ⟨(w50 G), rfl, (w82 G), (w83 G), (w84 G), by decide +kernel, lenN pd_15 rfl⟩
theorem d14_18 : DC c14 18 (.invokestatic 18) 3 := by decide +kernel
theorem pn_java_util_Collections : plainName "java/util/Collections" = true := by first | decide +kernel | (simp [plainName, overriddenIn]; done)
abbrev y20 : MethodName := ⟨"java/util/Collections", "unmodifiableList", "(Ljava/util/List;)Ljava/util/List;"⟩
theorem B20 : BI y20 "java/util/Collections" "unmodifiableList" := ⟨(plainFor_of_name pn_java_util_Collections), rfl, rfl⟩
abbrev c20 := jdk_79_method_35_code
theorem d20_0 : DC c20 0 (.aload_n 0) 1 := by decide +kernel
theorem d20_1 : DC c20 1 (.invokeinterface 211 1) 5 := by decide +kernel
theorem d20_6 : DC c20 6 (.ldc 212) 2 := by decide +kernel
theorem d20_8 : DC c20 8 (.if_acmp .eq 14) 3 := by decide +kernel
theorem d20_11 : DC c20 11 (.aload_n 0) 1 := by decide +kernel
theorem d20_12 : DC c20 12 (.invokeinterface 214 1) 5 := by decide +kernel
theorem d20_17 : DC c20 17 (.ldc 215) 2 := by decide +kernel
theorem d20_19 : DC c20 19 (.if_acmp .ne 5) 3 := by decide +kernel
theorem d20_24 : DC c20 24 (.aload_n 0) 1 := by decide +kernel
theorem d20_25 : DC c20 25 (.instanceof 13) 3 := by decide +kernel
theorem d20_28 : DC c20 28 (.ifCond .eq 14) 3 := by decide +kernel
theorem d20_31 : DC c20 31 (.new 215) 3 := by decide +kernel
theorem fd_6 : parseFieldDescriptor "Ljava/util/Collection;" = some (.object "java/util/Collection") := by decide +kernel
theorem d20_34 : DC c20 34 .dup 1 := by decide +kernel
theorem d20_35 : DC c20 35 (.aload_n 0) 1 := by decide +kernel
theorem d20_36 : DC c20 36 (.invokespecial 217) 3 := by decide +kernel
theorem pn_java_util_Collections_UnmodifiableRandomAccessList : plainName "java/util/Collections$UnmodifiableRandomAccessList" = true := by first | decide +kernel | (simp [plainName, overriddenIn]; done)
abbrev y21 : MethodName := ⟨"java/util/Collections$UnmodifiableRandomAccessList", "<init>", "(Ljava/util/List;)V"⟩
theorem B21 : BI y21 "java/util/Collections$UnmodifiableRandomAccessList" "<init>" := ⟨(plainFor_of_name pn_java_util_Collections_UnmodifiableRandomAccessList), rfl, rfl⟩
abbrev c21 := jdk_121_method_1_code
theorem d21_0 : DC c21 0 (.aload_n 0) 1 := by decide +kernel
theorem d21_1 : DC c21 1 (.aload_n 1) 1 := by decide +kernel
theorem d21_2 : DC c21 2 (.invokespecial 1) 3 := by decide +kernel
theorem pn_java_util_Collections_UnmodifiableList : plainName "java/util/Collections$UnmodifiableList" = true := by first | decide +kernel | (simp [plainName, overriddenIn]; done)
abbrev y22 : MethodName := ⟨"java/util/Collections$UnmodifiableList", "<init>", "(Ljava/util/List;)V"⟩
theorem B22 : BI y22 "java/util/Collections$UnmodifiableList" "<init>" := ⟨(plainFor_of_name pn_java_util_Collections_UnmodifiableList), rfl, rfl⟩
abbrev c22 := jdk_120_method_1_code
theorem d22_0 : DC c22 0 (.aload_n 0) 1 := by decide +kernel
theorem d22_1 : DC c22 1 (.aload_n 1) 1 := by decide +kernel
theorem d22_2 : DC c22 2 (.invokespecial 1) 3 := by decide +kernel
theorem pn_java_util_Collections_UnmodifiableCollection : plainName "java/util/Collections$UnmodifiableCollection" = true := by first | decide +kernel | (simp [plainName, overriddenIn]; done)
abbrev y23 : MethodName := ⟨"java/util/Collections$UnmodifiableCollection", "<init>", "(Ljava/util/Collection;)V"⟩
theorem B23 : BI y23 "java/util/Collections$UnmodifiableCollection" "<init>" := ⟨(plainFor_of_name pn_java_util_Collections_UnmodifiableCollection), rfl, rfl⟩
abbrev c23 := jdk_119_method_1_code
theorem d23_0 : DC c23 0 (.aload_n 0) 1 := by decide +kernel
theorem d23_1 : DC c23 1 (.invokespecial 1) 3 := by decide +kernel
theorem d23_4 : DC c23 4 (.aload_n 1) 1 := by decide +kernel
theorem d23_5 : DC c23 5 (.ifnonnull 11) 3 := by decide +kernel
theorem d23_16 : DC c23 16 (.aload_n 0) 1 := by decide +kernel
theorem d23_17 : DC c23 17 (.aload_n 1) 1 := by decide +kernel
theorem d23_18 : DC c23 18 (.putfield 10) 3 := by decide +kernel
theorem nc4 : "java/util/Collections$UnmodifiableRandomAccessList" ≠ "java/lang/String" ∧ "java/util/Collections$UnmodifiableRandomAccessList" ≠ "[B" := by decide +kernel
theorem d23_21 : DC c23 21 .return_ 1 := by decide +kernel
def sn8 := slot_ne (Or.inr (w160 G)) (Or.inr (w158 G)) (by decide +kernel) (t := (.object "java/util/List")) (t' := (.object "java/util/Collection")) fd_5 fd_6
abbrev M23 := MM y23 c23 2 none
def u18 : WS_special Z a0 "java/util/Collections$UnmodifiableList" 1 y23 c23 2 1 := ⟨(w154 G), rfl, (w150 G), (w151 G), (w155 G), by decide +kernel, lenN pd_15 rfl⟩
theorem d22_5 : DC c22 5 (.aload_n 0) 1 := by decide +kernel
theorem d22_6 : DC c22 6 (.aload_n 1) 1 := by decide +kernel
theorem d22_7 : DC c22 7 (.putfield 7) 3 := by decide +kernel
theorem d22_10 : DC c22 10 .return_ 1 := by decide +kernel
def sn9 := slot_ne (Or.inr (w158 G)) (Or.inr (w160 G)) (by decide +kernel) (t := (.object "java/util/Collection")) (t' := (.object "java/util/List")) fd_6 fd_5
abbrev M22 := MM y22 c22 2 none
theorem pd_16 : parseMethodDescriptor "(Ljava/util/List;)V" = some ⟨[(.object "java/util/List")], none⟩ := by decide +kernel
def u19 : WS_special Z a0 "java/util/Collections$UnmodifiableRandomAccessList" 1 y22 c22 2 1 := ⟨(w148 G), rfl, (w144 G), (w145 G), (w149 G), by decide +kernel, lenN pd_16 rfl⟩
theorem d21_5 : DC c21 5 .return_ 1 := by decide +kernel
abbrev M21 := MM y21 c21 2 none
def u20 : WS_special Z a0 "java/util/Collections" 217 y21 c21 2 1 := ⟨(w140 G), rfl, (w141 G), (w142 G), (w143 G), by decide +kernel, lenN pd_16 rfl⟩
theorem d20_39 : DC c20 39 (.goto 11) 3 := by decide +kernel
theorem d20_50 : DC c20 50 .areturn 1 := by decide +kernel
abbrev M20 := MM y20 c20 1 (some (.object "java/util/List"))
theorem pd_17 : parseMethodDescriptor "(Ljava/util/List;)Ljava/util/List;" = some ⟨[(.object "java/util/List")], (some (.object "java/util/List"))⟩ := by decide +kernel
def u21 : WS_static Z a0 "com/example/row_lease/rowlease/model/VersionGroup" 18 y20 c20 1 (some (.object "java/util/List")) 1 := ⟨(w121 G), (w122 G), (w123 G), (w124 G), by decide +kernel, lenN pd_17 rfl⟩
theorem d14_21 : DC c14 21 (.putfield 24) 3 := by decide +kernel
def sn10 := slot_ne (Or.inr (w162 G)) (Or.inr (w80 G)) (by decide +kernel) (t := (.object "java/util/List")) (t' := (.object "java/lang/String")) fd_5 fd_4
theorem d14_24 : DC c14 24 .return_ 1 := by decide +kernel
def sn11 := slot_ne (Or.inr (w80 G)) (Or.inr (w162 G)) (by decide +kernel) (t := (.object "java/lang/String")) (t' := (.object "java/util/List")) fd_4 fd_5
abbrev M14 := MM y13 c14 3 none
theorem pd_18 : parseMethodDescriptor "(Ljava/lang/String;Ljava/util/List;)V" = some ⟨[(.object "java/lang/String"), (.object "java/util/List")], none⟩ := by decide +kernel
def u22 : WS_special Z a0 "com/example/row_lease/rowlease/model/VersionGroupToStringPinLaw" 28 y13 c14 3 2 := ⟨(w74 G), rfl, (w75 G), (w76 G), (w77 G), by decide +kernel, lenN pd_18 rfl⟩
abbrev y24 : MethodName := ⟨"com/example/row_lease/rowlease/model/VersionGroup", "toString", "()Ljava/lang/String;"⟩
theorem B24 : BI y24 "com/example/row_lease/rowlease/model/VersionGroup" "toString" := ⟨(plainFor_of_name pn_com_example_row_lease_rowlease_model_VersionGroup), rfl, rfl⟩
abbrev c24 := prog_25_method_6_code
theorem d24_0 : DC c24 0 (.new 42) 3 := by decide +kernel
theorem d24_3 : DC c24 3 .dup 1 := by decide +kernel
theorem d24_4 : DC c24 4 (.invokespecial 44) 3 := by decide +kernel
theorem pn_java_lang_StringBuilder : plainName "java/lang/StringBuilder" = true := by first | decide +kernel | (simp [plainName, overriddenIn]; done)
abbrev y25 : MethodName := ⟨"java/lang/StringBuilder", "<init>", "()V"⟩
theorem B25 : BI y25 "java/lang/StringBuilder" "<init>" := ⟨(plainFor_of_name pn_java_lang_StringBuilder), rfl, rfl⟩
abbrev c25 := jdk_67_method_1_code
theorem d25_0 : DC c25 0 (.aload_n 0) 1 := by decide +kernel
theorem d25_1 : DC c25 1 (.bipush 16) 2 := by decide +kernel
theorem d25_3 : DC c25 3 (.invokespecial 1) 3 := by decide +kernel
theorem pn_java_lang_AbstractStringBuilder : plainName "java/lang/AbstractStringBuilder" = true := by first | decide +kernel | (simp [plainName, overriddenIn]; done)
abbrev y26 : MethodName := ⟨"java/lang/AbstractStringBuilder", "<init>", "(I)V"⟩
theorem B26 : BI y26 "java/lang/AbstractStringBuilder" "<init>" := ⟨(plainFor_of_name pn_java_lang_AbstractStringBuilder), rfl, rfl⟩
abbrev c26 := jdk_68_method_2_code
theorem d26_0 : DC c26 0 (.aload_n 0) 1 := by decide +kernel
theorem d26_1 : DC c26 1 (.invokespecial 3) 3 := by decide +kernel
theorem d26_4 : DC c26 4 (.getstatic 18) 3 := by decide +kernel
theorem d26_7 : DC c26 7 (.ifCond .eq 18) 3 := by decide +kernel
theorem d26_10 : DC c26 10 (.aload_n 0) 1 := by decide +kernel
theorem d26_11 : DC c26 11 (.iload_n 1) 1 := by decide +kernel
theorem d26_12 : DC c26 12 (.newarray .byte) 2 := by decide +kernel
theorem d26_14 : DC c26 14 (.putfield 15) 3 := by decide +kernel
theorem nc5 : "java/lang/StringBuilder" ≠ "java/lang/String" ∧ "java/lang/StringBuilder" ≠ "[B" := by decide +kernel
theorem d26_17 : DC c26 17 (.aload_n 0) 1 := by decide +kernel
theorem d26_18 : DC c26 18 (.iconst 0) 1 := by decide +kernel
theorem d26_19 : DC c26 19 (.putfield 22) 3 := by decide +kernel
def sn12 := slot_ne (Or.inl (w185 G)) (Or.inl (w183 G)) (by decide +kernel) (t := .byte) (t' := (.array .byte)) fd_1 fd_0
theorem d26_22 : DC c26 22 (.goto 16) 3 := by decide +kernel
theorem d26_38 : DC c26 38 .return_ 1 := by decide +kernel
def sn13 := slot_ne (Or.inl (w207 G)) (Or.inl (w183 G)) (by decide +kernel) (t := .int) (t' := (.array .byte)) fd_2 fd_0
def sn14 := slot_ne (Or.inl (w207 G)) (Or.inl (w185 G)) (by decide +kernel) (t := .int) (t' := .byte) fd_2 fd_1
def sn15 := slot_ne (Or.inl (w183 G)) (Or.inl (w185 G)) (by decide +kernel) (t := (.array .byte)) (t' := .byte) fd_0 fd_1
abbrev M26 := MM y26 c26 2 none
theorem pd_19 : parseMethodDescriptor "(I)V" = some ⟨[.int], none⟩ := by decide +kernel
def u23 : WS_special Z a0 "java/lang/StringBuilder" 1 y26 c26 2 1 := ⟨(w178 G), rfl, (w174 G), (w175 G), (w179 G), by decide +kernel, lenN pd_19 rfl⟩
theorem d25_6 : DC c25 6 .return_ 1 := by decide +kernel
abbrev M25 := MM y25 c25 1 none
def u24 : WS_special Z a0 "com/example/row_lease/rowlease/model/VersionGroup" 44 y25 c25 1 0 := ⟨(w170 G), rfl, (w171 G), (w172 G), (w173 G), by decide +kernel, lenN pd_10 rfl⟩
theorem d24_7 : DC c24 7 (.aload_n 0) 1 := by decide +kernel
theorem d24_8 : DC c24 8 (.getfield 7) 3 := by decide +kernel
theorem d24_11 : DC c24 11 (.invokevirtual 45) 3 := by decide +kernel
abbrev y27 : MethodName := ⟨"java/lang/StringBuilder", "append", "(Ljava/lang/String;)Ljava/lang/StringBuilder;"⟩
theorem B27 : BI y27 "java/lang/StringBuilder" "append" := ⟨(plainFor_of_name pn_java_lang_StringBuilder), rfl, rfl⟩
abbrev c27 := jdk_67_method_7_code
theorem d27_0 : DC c27 0 (.aload_n 0) 1 := by decide +kernel
theorem d27_1 : DC c27 1 (.aload_n 1) 1 := by decide +kernel
theorem d27_2 : DC c27 2 (.invokespecial 29) 3 := by decide +kernel
abbrev y28 : MethodName := ⟨"java/lang/AbstractStringBuilder", "append", "(Ljava/lang/String;)Ljava/lang/AbstractStringBuilder;"⟩
theorem B28 : BI y28 "java/lang/AbstractStringBuilder" "append" := ⟨(plainFor_of_name pn_java_lang_AbstractStringBuilder), rfl, rfl⟩
abbrev c28 := jdk_68_method_22_code
theorem d28_0 : DC c28 0 (.aload_n 1) 1 := by decide +kernel
theorem d28_1 : DC c28 1 (.ifnonnull 8) 3 := by decide +kernel
theorem d28_9 : DC c28 9 (.aload_n 1) 1 := by decide +kernel
theorem d28_10 : DC c28 10 (.invokevirtual 32) 3 := by decide +kernel
abbrev y29 : MethodName := ⟨"java/lang/String", "length", "()I"⟩
theorem B29 : BI y29 "java/lang/String" "length" := ⟨(plainFor_of_name pn_java_lang_String), rfl, rfl⟩
abbrev c29 := jdk_42_method_54_code
theorem d29_0 : DC c29 0 (.aload_n 0) 1 := by decide +kernel
theorem d29_1 : DC c29 1 (.getfield 9) 3 := by decide +kernel
theorem d29_4 : DC c29 4 .arraylength 1 := by decide +kernel
theorem d29_5 : DC c29 5 (.aload_n 0) 1 := by decide +kernel
theorem d29_6 : DC c29 6 (.invokevirtual 335) 3 := by decide +kernel
abbrev y30 : MethodName := ⟨"java/lang/String", "coder", "()B"⟩
theorem B30 : BI y30 "java/lang/String" "coder" := ⟨(plainFor_of_name pn_java_lang_String), rfl, rfl⟩
abbrev c30 := jdk_42_method_152_code
theorem d30_0 : DC c30 0 (.getstatic 38) 3 := by decide +kernel
theorem d30_3 : DC c30 3 (.ifCond .eq 10) 3 := by decide +kernel
theorem d30_6 : DC c30 6 (.aload_n 0) 1 := by decide +kernel
theorem d30_7 : DC c30 7 (.getfield 15) 3 := by decide +kernel
theorem d30_10 : DC c30 10 (.goto 4) 3 := by decide +kernel
theorem d30_14 : DC c30 14 .ireturn 1 := by decide +kernel
abbrev M30 := MM y30 c30 1 (some .byte)
theorem pd_20 : parseMethodDescriptor "()B" = some ⟨[], (some .byte)⟩ := by decide +kernel
def u25 : WS_virtual Z a0 "java/lang/String" 335 "java/lang/String" y30 y30 c30 1 (some .byte) 0 := ⟨(w205 G), (w2 G), (w201 G), (w202 G), (w204 G), (w203 G), (nf_sel (w204 G)), by decide +kernel, lenN pd_20 rfl⟩
theorem d29_9 : DC c29 9 .ishr 1 := by decide +kernel
theorem d29_10 : DC c29 10 .ireturn 1 := by decide +kernel
abbrev M29 := MM y29 c29 1 (some .int)
theorem pd_21 : parseMethodDescriptor "()I" = some ⟨[], (some .int)⟩ := by decide +kernel
def u26 : WS_virtual Z a0 "java/lang/AbstractStringBuilder" 32 "java/lang/String" y29 y29 c29 1 (some .int) 0 := ⟨(w200 G), (w2 G), (w196 G), (w197 G), (w199 G), (w198 G), (nf_sel (w199 G)), by decide +kernel, lenN pd_21 rfl⟩
theorem d28_13 : DC c28 13 (.istore_n 2) 1 := by decide +kernel
theorem d28_14 : DC c28 14 (.aload_n 0) 1 := by decide +kernel
theorem d28_15 : DC c28 15 (.aload_n 0) 1 := by decide +kernel
theorem d28_16 : DC c28 16 (.getfield 79) 3 := by decide +kernel
theorem d28_19 : DC c28 19 (.iload_n 2) 1 := by decide +kernel
theorem d28_20 : DC c28 20 .iadd 1 := by decide +kernel
theorem d28_21 : DC c28 21 (.invokevirtual 100) 3 := by decide +kernel
theorem ef14 {x0 : Addr} {x1 : Int32} (m : MethodId) : entryFrame m #[(.ref x0), (.int x1)] 3 = mkF m 0 #[.val (.ref x0), .val (.int x1), .unset] [] := by simp [entryFrame, mkF, argsToLocals, Value.category, maxLocals]
abbrev y31 : MethodName := ⟨"java/lang/AbstractStringBuilder", "ensureCapacityInternal", "(I)V"⟩
theorem B31 : BI y31 "java/lang/AbstractStringBuilder" "ensureCapacityInternal" := ⟨(plainFor_of_name pn_java_lang_AbstractStringBuilder), rfl, rfl⟩
abbrev c31 := jdk_68_method_9_code
theorem d31_0 : DC c31 0 (.aload_n 0) 1 := by decide +kernel
theorem d31_1 : DC c31 1 (.getfield 15) 3 := by decide +kernel
theorem d31_4 : DC c31 4 .arraylength 1 := by decide +kernel
theorem d31_5 : DC c31 5 (.aload_n 0) 1 := by decide +kernel
theorem d31_6 : DC c31 6 (.getfield 22) 3 := by decide +kernel
theorem d31_9 : DC c31 9 .ishr 1 := by decide +kernel
theorem d31_10 : DC c31 10 (.istore_n 2) 1 := by decide +kernel
theorem d31_11 : DC c31 11 (.iload_n 1) 1 := by decide +kernel
theorem d31_12 : DC c31 12 (.iload_n 2) 1 := by decide +kernel
theorem d31_13 : DC c31 13 .isub 1 := by decide +kernel
theorem d31_14 : DC c31 14 (.ifCond .le 24) 3 := by decide +kernel
theorem d31_38 : DC c31 38 .return_ 1 := by decide +kernel
abbrev M31 := MM y31 c31 3 none
def u27 : WS_virtual Z a0 "java/lang/AbstractStringBuilder" 100 "java/lang/StringBuilder" y31 y31 c31 3 none 1 := ⟨(w212 G), (w178 G), (w208 G), (own_decl (w209 G) (w212 G)), (w211 G), (w209 G), (nf_sel (w211 G)), by decide +kernel, lenN pd_19 rfl⟩
theorem d28_24 : DC c28 24 (.aload_n 0) 1 := by decide +kernel
theorem d28_25 : DC c28 25 (.aload_n 0) 1 := by decide +kernel
theorem d28_26 : DC c28 26 (.getfield 79) 3 := by decide +kernel
theorem d28_29 : DC c28 29 (.aload_n 1) 1 := by decide +kernel
theorem d28_30 : DC c28 30 (.invokevirtual 208) 3 := by decide +kernel
theorem ef15 {x0 : Addr} {x1 : Int32} {x2 : Addr} (m : MethodId) : entryFrame m #[(.ref x0), (.int x1), (.ref x2)] 3 = mkF m 0 #[.val (.ref x0), .val (.int x1), .val (.ref x2)] [] := by simp [entryFrame, mkF, argsToLocals, Value.category, maxLocals]
abbrev y32 : MethodName := ⟨"java/lang/AbstractStringBuilder", "putStringAt", "(ILjava/lang/String;)V"⟩
theorem B32 : BI y32 "java/lang/AbstractStringBuilder" "putStringAt" := ⟨(plainFor_of_name pn_java_lang_AbstractStringBuilder), rfl, rfl⟩
abbrev c32 := jdk_68_method_73_code
theorem d32_0 : DC c32 0 (.aload_n 0) 1 := by decide +kernel
theorem d32_1 : DC c32 1 (.aload_n 2) 1 := by decide +kernel
theorem d32_2 : DC c32 2 (.invokevirtual 397) 3 := by decide +kernel
abbrev y33 : MethodName := ⟨"java/lang/AbstractStringBuilder", "inflateIfNeededFor", "(Ljava/lang/String;)V"⟩
theorem B33 : BI y33 "java/lang/AbstractStringBuilder" "inflateIfNeededFor" := ⟨(plainFor_of_name pn_java_lang_AbstractStringBuilder), rfl, rfl⟩
abbrev c33 := jdk_68_method_71_code
theorem d33_0 : DC c33 0 (.getstatic 18) 3 := by decide +kernel
theorem d33_3 : DC c33 3 (.ifCond .eq 18) 3 := by decide +kernel
theorem d33_6 : DC c33 6 (.aload_n 0) 1 := by decide +kernel
theorem d33_7 : DC c33 7 (.getfield 22) 3 := by decide +kernel
theorem d33_10 : DC c33 10 (.aload_n 1) 1 := by decide +kernel
theorem d33_11 : DC c33 11 (.invokevirtual 40) 3 := by decide +kernel
def u28 : WS_virtual Z a0 "java/lang/AbstractStringBuilder" 40 "java/lang/String" y30 y30 c30 1 (some .byte) 0 := ⟨(w205 G), (w2 G), (w223 G), (w202 G), (w204 G), (w203 G), (nf_sel (w204 G)), by decide +kernel, lenN pd_20 rfl⟩
theorem d33_14 : DC c33 14 (.if_icmp .eq 7) 3 := by decide +kernel
theorem d33_21 : DC c33 21 .return_ 1 := by decide +kernel
abbrev M33 := MM y33 c33 2 none
theorem pd_22 : parseMethodDescriptor "(Ljava/lang/String;)V" = some ⟨[(.object "java/lang/String")], none⟩ := by decide +kernel
def u29 : WS_virtual Z a0 "java/lang/AbstractStringBuilder" 397 "java/lang/StringBuilder" y33 y33 c33 2 none 1 := ⟨(w222 G), (w178 G), (w218 G), (own_decl (w219 G) (w222 G)), (w221 G), (w219 G), (nf_sel (w221 G)), by decide +kernel, lenN pd_22 rfl⟩
theorem d32_5 : DC c32 5 (.aload_n 2) 1 := by decide +kernel
theorem d32_6 : DC c32 6 (.aload_n 0) 1 := by decide +kernel
theorem d32_7 : DC c32 7 (.getfield 15) 3 := by decide +kernel
theorem d32_10 : DC c32 10 (.iload_n 1) 1 := by decide +kernel
theorem d32_11 : DC c32 11 (.aload_n 0) 1 := by decide +kernel
theorem d32_12 : DC c32 12 (.getfield 22) 3 := by decide +kernel
theorem d32_15 : DC c32 15 (.invokevirtual 399) 3 := by decide +kernel
theorem ef16 {x0 : Addr} {x1 : Addr} {x2 : Int32} {x3 : Int32} (m : MethodId) : entryFrame m #[(.ref x0), (.ref x1), (.int x2), (.int x3)] 4 = mkF m 0 #[.val (.ref x0), .val (.ref x1), .val (.int x2), .val (.int x3)] [] := by simp [entryFrame, mkF, argsToLocals, Value.category, maxLocals]
abbrev y34 : MethodName := ⟨"java/lang/String", "getBytes", "([BIB)V"⟩
theorem B34 : BI y34 "java/lang/String" "getBytes" := ⟨(plainFor_of_name pn_java_lang_String), rfl, rfl⟩
abbrev c34 := jdk_42_method_147_code
theorem d34_0 : DC c34 0 (.aload_n 0) 1 := by decide +kernel
theorem d34_1 : DC c34 1 (.invokevirtual 335) 3 := by decide +kernel
theorem d34_4 : DC c34 4 (.iload_n 3) 1 := by decide +kernel
theorem d34_5 : DC c34 5 (.if_icmp .ne 23) 3 := by decide +kernel
theorem d34_8 : DC c34 8 (.aload_n 0) 1 := by decide +kernel
theorem d34_9 : DC c34 9 (.getfield 9) 3 := by decide +kernel
theorem d34_12 : DC c34 12 (.iconst 0) 1 := by decide +kernel
theorem d34_13 : DC c34 13 (.aload_n 1) 1 := by decide +kernel
theorem d34_14 : DC c34 14 (.iload_n 2) 1 := by decide +kernel
theorem d34_15 : DC c34 15 (.iload_n 3) 1 := by decide +kernel
theorem d34_16 : DC c34 16 .ishl 1 := by decide +kernel
theorem d34_17 : DC c34 17 (.aload_n 0) 1 := by decide +kernel
theorem d34_18 : DC c34 18 (.getfield 9) 3 := by decide +kernel
theorem d34_21 : DC c34 21 .arraylength 1 := by decide +kernel
theorem d34_22 : DC c34 22 (.invokestatic 212) 3 := by decide +kernel
theorem d34_25 : DC c34 25 (.goto 18) 3 := by decide +kernel
theorem d34_43 : DC c34 43 .return_ 1 := by decide +kernel
abbrev M34 := MM y34 c34 4 none
theorem pd_23 : parseMethodDescriptor "([BIB)V" = some ⟨[(.array .byte), .int, .byte], none⟩ := by decide +kernel
def u30 : WS_virtual Z a0 "java/lang/AbstractStringBuilder" 399 "java/lang/String" y34 y34 c34 4 none 3 := ⟨(w228 G), (w2 G), (w224 G), (w225 G), (w227 G), (w226 G), (nf_sel (w227 G)), by decide +kernel, lenN pd_23 rfl⟩
theorem d32_18 : DC c32 18 .return_ 1 := by decide +kernel
abbrev M32 := MM y32 c32 3 none
theorem pd_24 : parseMethodDescriptor "(ILjava/lang/String;)V" = some ⟨[.int, (.object "java/lang/String")], none⟩ := by decide +kernel
def u31 : WS_virtual Z a0 "java/lang/AbstractStringBuilder" 208 "java/lang/StringBuilder" y32 y32 c32 3 none 2 := ⟨(w217 G), (w178 G), (w213 G), (own_decl (w214 G) (w217 G)), (w216 G), (w214 G), (nf_sel (w216 G)), by decide +kernel, lenN pd_24 rfl⟩
theorem d28_33 : DC c28 33 (.aload_n 0) 1 := by decide +kernel
theorem d28_34 : DC c28 34 .dup 1 := by decide +kernel
theorem d28_35 : DC c28 35 (.getfield 79) 3 := by decide +kernel
theorem d28_38 : DC c28 38 (.iload_n 2) 1 := by decide +kernel
theorem d28_39 : DC c28 39 .iadd 1 := by decide +kernel
theorem d28_40 : DC c28 40 (.putfield 79) 3 := by decide +kernel
theorem d28_43 : DC c28 43 (.aload_n 0) 1 := by decide +kernel
theorem d28_44 : DC c28 44 .areturn 1 := by decide +kernel
def sn16 := slot_ne (Or.inl (w185 G)) (Or.inl (w207 G)) (by decide +kernel) (t := .byte) (t' := .int) fd_1 fd_2
def sn17 := slot_ne (Or.inl (w183 G)) (Or.inl (w207 G)) (by decide +kernel) (t := (.array .byte)) (t' := .int) fd_0 fd_2
abbrev M28 := MM y28 c28 3 (some (.object "java/lang/AbstractStringBuilder"))
theorem pd_25 : parseMethodDescriptor "(Ljava/lang/String;)Ljava/lang/AbstractStringBuilder;" = some ⟨[(.object "java/lang/String")], (some (.object "java/lang/AbstractStringBuilder"))⟩ := by decide +kernel
def u32 : WS_super Z a0 "java/lang/StringBuilder" 29 y28 c28 3 (some (.object "java/lang/AbstractStringBuilder")) "java/lang/StringBuilder" 1 := ⟨(w178 G), (w191 G), own_same (w192 G) (own_nfZ (w211 G) rfl) (by decide), (w192 G), (w193 G), by decide +kernel, (w195 G), lenN pd_25 rfl⟩
theorem d27_5 : DC c27 5 .pop 1 := by decide +kernel
theorem d27_6 : DC c27 6 (.aload_n 0) 1 := by decide +kernel
theorem d27_7 : DC c27 7 .areturn 1 := by decide +kernel
abbrev M27 := MM y27 c27 2 (some (.object "java/lang/StringBuilder"))
theorem pd_26 : parseMethodDescriptor "(Ljava/lang/String;)Ljava/lang/StringBuilder;" = some ⟨[(.object "java/lang/String")], (some (.object "java/lang/StringBuilder"))⟩ := by decide +kernel
def u33 : WS_virtual Z a0 "com/example/row_lease/rowlease/model/VersionGroup" 45 "java/lang/StringBuilder" y27 y27 c27 2 (some (.object "java/lang/StringBuilder")) 1 := ⟨(w190 G), (w170 G), (w186 G), (w187 G), (w189 G), (w188 G), (nf_sel (w189 G)), by decide +kernel, lenN pd_26 rfl⟩
theorem d24_14 : DC c24 14 (.ldc 49) 2 := by decide +kernel
theorem d24_16 : DC c24 16 (.invokevirtual 45) 3 := by decide +kernel
theorem d24_19 : DC c24 19 (.aload_n 0) 1 := by decide +kernel
theorem d24_20 : DC c24 20 (.getfield 24) 3 := by decide +kernel
theorem d24_23 : DC c24 23 (.invokevirtual 51) 3 := by decide +kernel
abbrev y35 : MethodName := ⟨"java/lang/StringBuilder", "append", "(Ljava/lang/Object;)Ljava/lang/StringBuilder;"⟩
theorem B35 : BI y35 "java/lang/StringBuilder" "append" := ⟨(plainFor_of_name pn_java_lang_StringBuilder), rfl, rfl⟩
abbrev c35 := jdk_67_method_6_code
theorem d35_0 : DC c35 0 (.aload_n 0) 1 := by decide +kernel
theorem d35_1 : DC c35 1 (.aload_n 1) 1 := by decide +kernel
theorem d35_2 : DC c35 2 (.invokestatic 17) 3 := by decide +kernel
abbrev y36 : MethodName := ⟨"java/lang/String", "valueOf", "(Ljava/lang/Object;)Ljava/lang/String;"⟩
theorem B36 : BI y36 "java/lang/String" "valueOf" := ⟨(plainFor_of_name pn_java_lang_String), rfl, rfl⟩
abbrev c36 := jdk_42_method_133_code
theorem d36_0 : DC c36 0 (.aload_n 0) 1 := by decide +kernel
theorem d36_1 : DC c36 1 (.ifnonnull 9) 3 := by decide +kernel
theorem d36_10 : DC c36 10 (.aload_n 0) 1 := by decide +kernel
theorem d36_11 : DC c36 11 (.invokevirtual 1007) 3 := by decide +kernel
abbrev y37 : MethodName := ⟨"java/util/Collections$UnmodifiableCollection", "toString", "()Ljava/lang/String;"⟩
theorem B37 : BI y37 "java/util/Collections$UnmodifiableCollection" "toString" := ⟨(plainFor_of_name pn_java_util_Collections_UnmodifiableCollection), rfl, rfl⟩
abbrev c37 := jdk_119_method_8_code
theorem d37_0 : DC c37 0 (.aload_n 0) 1 := by decide +kernel
theorem d37_1 : DC c37 1 (.getfield 10) 3 := by decide +kernel
theorem d37_4 : DC c37 4 (.invokeinterface 40 1) 5 := by decide +kernel
theorem ef17 {x0 : Addr} (m : MethodId) : entryFrame m #[(.ref x0)] 4 = mkF m 0 #[.val (.ref x0), .unset, .unset, .unset] [] := by simp [entryFrame, mkF, argsToLocals, Value.category, maxLocals]
abbrev y38 : MethodName := ⟨"java/util/AbstractCollection", "toString", "()Ljava/lang/String;"⟩
theorem B38 : BI y38 "java/util/AbstractCollection" "toString" := ⟨(plainFor_of_name pn_java_util_AbstractCollection), rfl, rfl⟩
abbrev c38 := jdk_22_method_16_code
theorem d38_0 : DC c38 0 (.aload_n 0) 1 := by decide +kernel
theorem d38_1 : DC c38 1 (.invokevirtual 13) 3 := by decide +kernel
abbrev y39 : MethodName := ⟨"java/util/ArrayList", "iterator", "()Ljava/util/Iterator;"⟩
theorem B39 : BI y39 "java/util/ArrayList" "iterator" := ⟨(plainFor_of_name pn_java_util_ArrayList), rfl, rfl⟩
abbrev c39 := jdk_38_method_55_code
theorem d39_0 : DC c39 0 (.new 267) 3 := by decide +kernel
theorem fd_7 : parseFieldDescriptor "Ljava/util/ArrayList;" = some (.object "java/util/ArrayList") := by decide +kernel
theorem d39_3 : DC c39 3 .dup 1 := by decide +kernel
theorem d39_4 : DC c39 4 (.aload_n 0) 1 := by decide +kernel
theorem d39_5 : DC c39 5 (.invokespecial 269) 3 := by decide +kernel
theorem pn_java_util_ArrayList_Itr : plainName "java/util/ArrayList$Itr" = true := by first | decide +kernel | (simp [plainName, overriddenIn]; done)
abbrev y40 : MethodName := ⟨"java/util/ArrayList$Itr", "<init>", "(Ljava/util/ArrayList;)V"⟩
theorem B40 : BI y40 "java/util/ArrayList$Itr" "<init>" := ⟨(plainFor_of_name pn_java_util_ArrayList_Itr), rfl, rfl⟩
abbrev c40 := jdk_49_method_1_code
theorem d40_0 : DC c40 0 (.aload_n 0) 1 := by decide +kernel
theorem d40_1 : DC c40 1 (.aload_n 1) 1 := by decide +kernel
theorem d40_2 : DC c40 2 (.putfield 1) 3 := by decide +kernel
theorem nc6 : "java/util/ArrayList$Itr" ≠ "java/lang/String" ∧ "java/util/ArrayList$Itr" ≠ "[B" := by decide +kernel
theorem d40_5 : DC c40 5 (.aload_n 0) 1 := by decide +kernel
theorem d40_6 : DC c40 6 (.invokespecial 7) 3 := by decide +kernel
theorem d40_9 : DC c40 9 (.aload_n 0) 1 := by decide +kernel
theorem d40_10 : DC c40 10 (.iconst (-1)) 1 := by decide +kernel
theorem d40_11 : DC c40 11 (.putfield 13) 3 := by decide +kernel
def sn18 := slot_ne (Or.inl (w270 G)) (Or.inr (w267 G)) (by decide +kernel) (t := .int) (t' := (.object "java/util/ArrayList")) fd_2 fd_7
theorem d40_14 : DC c40 14 (.aload_n 0) 1 := by decide +kernel
theorem d40_15 : DC c40 15 (.aload_n 0) 1 := by decide +kernel
theorem d40_16 : DC c40 16 (.getfield 1) 3 := by decide +kernel
def sn19 := slot_ne (Or.inr (w267 G)) (Or.inl (w270 G)) (by decide +kernel) (t := (.object "java/util/ArrayList")) (t' := .int) fd_7 fd_2
theorem d40_19 : DC c40 19 (.getfield 17) 3 := by decide +kernel
theorem d40_22 : DC c40 22 (.putfield 22) 3 := by decide +kernel
def sn20 := slot_ne (Or.inl (w274 G)) (Or.inr (w267 G)) (by decide +kernel) (t := .int) (t' := (.object "java/util/ArrayList")) fd_2 fd_7
def sn21 := slot_ne (Or.inl (w274 G)) (Or.inl (w270 G)) (by decide +kernel) (t := .int) (t' := .int) fd_2 fd_2
theorem d40_25 : DC c40 25 .return_ 1 := by decide +kernel
def sn22 := slot_ne (Or.inl (w285 G)) (Or.inr (w267 G)) (by decide +kernel) (t := .int) (t' := (.object "java/util/ArrayList")) fd_2 fd_7
def sn23 := slot_ne (Or.inl (w285 G)) (Or.inl (w270 G)) (by decide +kernel) (t := .int) (t' := .int) fd_2 fd_2
def sn24 := slot_ne (Or.inl (w285 G)) (Or.inl (w274 G)) (by decide +kernel) (t := .int) (t' := .int) fd_2 fd_2
def sn25 := slot_ne (Or.inl (w270 G)) (Or.inl (w274 G)) (by decide +kernel) (t := .int) (t' := .int) fd_2 fd_2
def sn26 := slot_ne (Or.inr (w267 G)) (Or.inl (w274 G)) (by decide +kernel) (t := (.object "java/util/ArrayList")) (t' := .int) fd_7 fd_2
abbrev M40 := MM y40 c40 2 none
theorem pd_27 : parseMethodDescriptor "(Ljava/util/ArrayList;)V" = some ⟨[(.object "java/util/ArrayList")], none⟩ := by decide +kernel
def u34 : WS_special Z a0 "java/util/ArrayList" 269 y40 c40 2 1 := ⟨(w261 G), rfl, (w262 G), (w263 G), (w265 G), by decide +kernel, lenN pd_27 rfl⟩
theorem d39_8 : DC c39 8 .areturn 1 := by decide +kernel
abbrev M39 := MM y39 c39 1 (some (.object "java/util/Iterator"))
theorem pd_28 : parseMethodDescriptor "()Ljava/util/Iterator;" = some ⟨[], (some (.object "java/util/Iterator"))⟩ := by decide +kernel
abbrev y41 : MethodName := ⟨"java/util/AbstractCollection", "iterator", "()Ljava/util/Iterator;"⟩
def u35 : WS_virtual Z a0 "java/util/AbstractCollection" 13 "java/util/ArrayList" y41 y39 c39 1 (some (.object "java/util/Iterator")) 0 := ⟨(w258 G), (w50 G), (w254 G), (w255 G), (w256 G), (w257 G), (own_nfZ (w249 G) rfl), by decide +kernel, lenN pd_28 rfl⟩
theorem d38_4 : DC c38 4 (.astore_n 1) 1 := by decide +kernel
theorem d38_5 : DC c38 5 (.aload_n 1) 1 := by decide +kernel
theorem d38_6 : DC c38 6 (.invokeinterface 17 1) 5 := by decide +kernel
abbrev y42 : MethodName := ⟨"java/util/ArrayList$Itr", "hasNext", "()Z"⟩
theorem B41 : BI y42 "java/util/ArrayList$Itr" "hasNext" := ⟨(plainFor_of_name pn_java_util_ArrayList_Itr), rfl, rfl⟩
abbrev c41 := jdk_49_method_2_code
theorem d41_0 : DC c41 0 (.aload_n 0) 1 := by decide +kernel
theorem d41_1 : DC c41 1 (.getfield 25) 3 := by decide +kernel
theorem d41_4 : DC c41 4 (.aload_n 0) 1 := by decide +kernel
theorem d41_5 : DC c41 5 (.getfield 1) 3 := by decide +kernel
theorem d41_8 : DC c41 8 (.getfield 28) 3 := by decide +kernel
theorem d41_11 : DC c41 11 (.if_icmp .eq 7) 3 := by decide +kernel
theorem d41_18 : DC c41 18 (.iconst 0) 1 := by decide +kernel
theorem d41_19 : DC c41 19 .ireturn 1 := by decide +kernel
abbrev M41 := MM y42 c41 1 (some .boolean)
theorem pd_29 : parseMethodDescriptor "()Z" = some ⟨[], (some .boolean)⟩ := by decide +kernel
abbrev y43 : MethodName := ⟨"java/util/Iterator", "hasNext", "()Z"⟩
def u36 : WS_iface Z a0 "java/util/AbstractCollection" 17 "java/util/ArrayList$Itr" y43 y42 c41 1 (some .boolean) 0 := ⟨(w283 G), (w261 G), (w275 G), (w276 G), (w277 G), (w278 G), (w279 G), (w280 G), (w281 G), (w282 G), by first | rfl | simp [Cond.onTables, Cond.keepsFace, Cond.keeps, Cond.steady], by decide +kernel, lenN pd_29 rfl⟩
theorem d38_11 : DC c38 11 (.ifCond .ne 6) 3 := by decide +kernel
theorem d38_14 : DC c38 14 (.ldc 92) 2 := by decide +kernel
theorem d38_16 : DC c38 16 .areturn 1 := by decide +kernel
abbrev M38 := MM y38 c38 4 (some (.object "java/lang/String"))
theorem pd_30 : parseMethodDescriptor "()Ljava/lang/String;" = some ⟨[], (some (.object "java/lang/String"))⟩ := by decide +kernel
abbrev y44 : MethodName := ⟨"java/util/Collection", "toString", "()Ljava/lang/String;"⟩
def u37 : WS_ifaceUp Z a0 "java/util/Collections$UnmodifiableCollection" 40 "java/util/ArrayList" "java/lang/Object" y44 y38 c38 4 (some (.object "java/lang/String")) 0 := ⟨(w253 G), (w64 G), (w247 G), (w242 G), (w248 G), by decide +kernel, (w249 G), (w250 G), (w251 G), (w252 G), (w92 G), by decide +kernel, by decide +kernel, lenN pd_30 rfl⟩
theorem d37_9 : DC c37 9 .areturn 1 := by decide +kernel
abbrev M37 := MM y37 c37 1 (some (.object "java/lang/String"))
abbrev y45 : MethodName := ⟨"java/lang/Object", "toString", "()Ljava/lang/String;"⟩
def u38 : WS_virtual Z a0 "java/lang/String" 1007 "java/util/Collections$UnmodifiableRandomAccessList" y45 y37 c37 1 (some (.object "java/lang/String")) 0 := ⟨(w246 G), (w154 G), (w241 G), (w242 G), (w244 G), (w245 G), (own_nfZ (w103 G) rfl), by decide +kernel, lenN pd_30 rfl⟩
theorem d36_14 : DC c36 14 .areturn 1 := by decide +kernel
abbrev M36 := MM y36 c36 1 (some (.object "java/lang/String"))
theorem pd_31 : parseMethodDescriptor "(Ljava/lang/Object;)Ljava/lang/String;" = some ⟨[(.object "java/lang/Object")], (some (.object "java/lang/String"))⟩ := by decide +kernel
def u39 : WS_static Z a0 "java/lang/StringBuilder" 17 y36 c36 1 (some (.object "java/lang/String")) 1 := ⟨(w238 G), (w239 G), (w2 G), (w240 G), by decide +kernel, lenN pd_31 rfl⟩
theorem d35_5 : DC c35 5 (.invokevirtual 23) 3 := by decide +kernel
def u40 : WS_virtual Z a0 "java/lang/StringBuilder" 23 "java/lang/StringBuilder" y27 y27 c27 2 (some (.object "java/lang/StringBuilder")) 1 := ⟨(w190 G), (w170 G), (w288 G), (w187 G), (w189 G), (w188 G), (nf_sel (w189 G)), by decide +kernel, lenN pd_26 rfl⟩
theorem d35_8 : DC c35 8 .areturn 1 := by decide +kernel
abbrev M35 := MM y35 c35 2 (some (.object "java/lang/StringBuilder"))
theorem pd_32 : parseMethodDescriptor "(Ljava/lang/Object;)Ljava/lang/StringBuilder;" = some ⟨[(.object "java/lang/Object")], (some (.object "java/lang/StringBuilder"))⟩ := by decide +kernel
def u41 : WS_virtual Z a0 "com/example/row_lease/rowlease/model/VersionGroup" 51 "java/lang/StringBuilder" y35 y35 c35 2 (some (.object "java/lang/StringBuilder")) 1 := ⟨(w237 G), (w170 G), (w233 G), (w234 G), (w236 G), (w235 G), (nf_sel (w236 G)), by decide +kernel, lenN pd_32 rfl⟩
theorem d24_26 : DC c24 26 (.invokevirtual 54) 3 := by decide +kernel
abbrev y46 : MethodName := ⟨"java/lang/StringBuilder", "toString", "()Ljava/lang/String;"⟩
theorem B42 : BI y46 "java/lang/StringBuilder" "toString" := ⟨(plainFor_of_name pn_java_lang_StringBuilder), rfl, rfl⟩
abbrev c42 := jdk_67_method_42_code
theorem d42_0 : DC c42 0 (.new 18) 3 := by decide +kernel
theorem d42_3 : DC c42 3 .dup 1 := by decide +kernel
theorem d42_4 : DC c42 4 (.aload_n 0) 1 := by decide +kernel
theorem d42_5 : DC c42 5 (.invokespecial 137) 3 := by decide +kernel
abbrev y47 : MethodName := ⟨"java/lang/String", "<init>", "(Ljava/lang/StringBuilder;)V"⟩
theorem B43 : BI y47 "java/lang/String" "<init>" := ⟨(plainFor_of_name pn_java_lang_String), rfl, rfl⟩
abbrev c43 := jdk_42_method_53_code
theorem d43_0 : DC c43 0 (.aload_n 0) 1 := by decide +kernel
theorem d43_1 : DC c43 1 (.aload_n 1) 1 := by decide +kernel
theorem d43_2 : DC c43 2 .aconst_null 1 := by decide +kernel
theorem d43_3 : DC c43 3 (.invokespecial 489) 3 := by decide +kernel
theorem ef18 {x0 : Addr} {x1 : Addr} (m : MethodId) : entryFrame m #[(.ref x0), (.ref x1), .null] 5 = mkF m 0 #[.val (.ref x0), .val (.ref x1), .val .null, .unset, .unset] [] := by simp [entryFrame, mkF, argsToLocals, Value.category, maxLocals]
abbrev y48 : MethodName := ⟨"java/lang/String", "<init>", "(Ljava/lang/AbstractStringBuilder;Ljava/lang/Void;)V"⟩
theorem B44 : BI y48 "java/lang/String" "<init>" := ⟨(plainFor_of_name pn_java_lang_String), rfl, rfl⟩
abbrev c44 := jdk_42_method_150_code
theorem d44_0 : DC c44 0 (.aload_n 0) 1 := by decide +kernel
theorem d44_1 : DC c44 1 (.invokespecial 1) 3 := by decide +kernel
theorem d44_4 : DC c44 4 (.aload_n 1) 1 := by decide +kernel
theorem d44_5 : DC c44 5 (.invokevirtual 552) 3 := by decide +kernel
abbrev y49 : MethodName := ⟨"java/lang/AbstractStringBuilder", "getValue", "()[B"⟩
theorem B45 : BI y49 "java/lang/AbstractStringBuilder" "getValue" := ⟨(plainFor_of_name pn_java_lang_AbstractStringBuilder), rfl, rfl⟩
abbrev c45 := jdk_68_method_64_code
theorem d45_0 : DC c45 0 (.aload_n 0) 1 := by decide +kernel
theorem d45_1 : DC c45 1 (.getfield 15) 3 := by decide +kernel
theorem d45_4 : DC c45 4 .areturn 1 := by decide +kernel
abbrev M45 := MM y49 c45 1 (some (.array .byte))
theorem pd_33 : parseMethodDescriptor "()[B" = some ⟨[], (some (.array .byte))⟩ := by decide +kernel
def u42 : WS_virtual Z a0 "java/lang/String" 552 "java/lang/StringBuilder" y49 y49 c45 1 (some (.array .byte)) 0 := ⟨(w305 G), (w178 G), (w301 G), (w302 G), (w304 G), (w303 G), (nf_sel (w304 G)), by decide +kernel, lenN pd_33 rfl⟩
theorem d44_8 : DC c44 8 (.astore_n 3) 1 := by decide +kernel
theorem d44_9 : DC c44 9 (.aload_n 1) 1 := by decide +kernel
theorem d44_10 : DC c44 10 (.invokevirtual 549) 3 := by decide +kernel
abbrev y50 : MethodName := ⟨"java/lang/StringBuilder", "length", "()I"⟩
theorem B46 : BI y50 "java/lang/StringBuilder" "length" := ⟨(plainFor_of_name pn_java_lang_StringBuilder), rfl, rfl⟩
abbrev c46 := jdk_67_method_93_code
theorem d46_0 : DC c46 0 (.aload_n 0) 1 := by decide +kernel
theorem d46_1 : DC c46 1 (.invokespecial 343) 3 := by decide +kernel
abbrev y51 : MethodName := ⟨"java/lang/AbstractStringBuilder", "length", "()I"⟩
theorem B47 : BI y51 "java/lang/AbstractStringBuilder" "length" := ⟨(plainFor_of_name pn_java_lang_AbstractStringBuilder), rfl, rfl⟩
abbrev c47 := jdk_68_method_6_code
theorem d47_0 : DC c47 0 (.aload_n 0) 1 := by decide +kernel
theorem d47_1 : DC c47 1 (.getfield 79) 3 := by decide +kernel
theorem d47_4 : DC c47 4 .ireturn 1 := by decide +kernel
abbrev M47 := MM y51 c47 1 (some .int)
def u43 : WS_super Z a0 "java/lang/StringBuilder" 343 y51 c47 1 (some .int) "java/lang/StringBuilder" 0 := ⟨(w178 G), (w312 G), own_same (w308 G) (own_nfZ (w211 G) rfl) (by decide), (w308 G), (w193 G), by decide +kernel, (w313 G), lenN pd_21 rfl⟩
theorem d46_4 : DC c46 4 .ireturn 1 := by decide +kernel
abbrev M46 := MM y50 c46 1 (some .int)
def u44 : WS_virtual Z a0 "java/lang/String" 549 "java/lang/StringBuilder" y51 y50 c46 1 (some .int) 0 := ⟨(w311 G), (w170 G), (w306 G), (w307 G), (w309 G), (w310 G), (own_nfZ (w211 G) rfl), by decide +kernel, lenN pd_21 rfl⟩
theorem d44_13 : DC c44 13 (.istore 4) 2 := by decide +kernel
theorem d44_15 : DC c44 15 (.aload_n 1) 1 := by decide +kernel
theorem d44_16 : DC c44 16 (.invokevirtual 1047) 3 := by decide +kernel
abbrev y52 : MethodName := ⟨"java/lang/AbstractStringBuilder", "isLatin1", "()Z"⟩
theorem B48 : BI y52 "java/lang/AbstractStringBuilder" "isLatin1" := ⟨(plainFor_of_name pn_java_lang_AbstractStringBuilder), rfl, rfl⟩
abbrev c48 := jdk_68_method_68_code
theorem d48_0 : DC c48 0 (.getstatic 18) 3 := by decide +kernel
theorem d48_3 : DC c48 3 (.ifCond .eq 14) 3 := by decide +kernel
theorem d48_6 : DC c48 6 (.aload_n 0) 1 := by decide +kernel
theorem d48_7 : DC c48 7 (.getfield 22) 3 := by decide +kernel
theorem d48_10 : DC c48 10 (.ifCond .ne 7) 3 := by decide +kernel
theorem d48_13 : DC c48 13 (.iconst 1) 1 := by decide +kernel
theorem d48_14 : DC c48 14 (.goto 4) 3 := by decide +kernel
theorem d48_18 : DC c48 18 .ireturn 1 := by decide +kernel
abbrev M48 := MM y52 c48 1 (some .boolean)
def u45 : WS_virtual Z a0 "java/lang/String" 1047 "java/lang/StringBuilder" y52 y52 c48 1 (some .boolean) 0 := ⟨(w318 G), (w178 G), (w314 G), (w315 G), (w317 G), (w316 G), (nf_sel (w317 G)), by decide +kernel, lenN pd_29 rfl⟩
theorem d44_19 : DC c44 19 (.ifCond .eq 22) 3 := by decide +kernel
theorem d44_22 : DC c44 22 (.aload_n 0) 1 := by decide +kernel
theorem d44_23 : DC c44 23 (.iconst 0) 1 := by decide +kernel
theorem d44_24 : DC c44 24 (.putfield 15) 3 := by decide +kernel
theorem d44_27 : DC c44 27 (.aload_n 0) 1 := by decide +kernel
theorem d44_28 : DC c44 28 (.aload_n 3) 1 := by decide +kernel
theorem d44_29 : DC c44 29 (.iconst 0) 1 := by decide +kernel
theorem d44_30 : DC c44 30 (.iload 4) 2 := by decide +kernel
theorem d44_32 : DC c44 32 (.invokestatic 54) 3 := by decide +kernel
theorem ef19 {x0 : Addr} {x1 : Int32} {x2 : Int32} (m : MethodId) : entryFrame m #[(.ref x0), (.int x1), (.int x2)] 3 = mkF m 0 #[.val (.ref x0), .val (.int x1), .val (.int x2)] [] := by simp [entryFrame, mkF, argsToLocals, Value.category, maxLocals]
abbrev y53 : MethodName := ⟨"java/util/Arrays", "copyOfRange", "([BII)[B"⟩
theorem B49 : BI y53 "java/util/Arrays" "copyOfRange" := ⟨(plainFor_of_name pn_java_util_Arrays), rfl, rfl⟩
abbrev c49 := jdk_65_method_132_code
theorem d49_0 : DC c49 0 (.iload_n 1) 1 := by decide +kernel
theorem d49_1 : DC c49 1 (.ifCond .ne 9) 3 := by decide +kernel
theorem d49_4 : DC c49 4 (.iload_n 2) 1 := by decide +kernel
theorem d49_5 : DC c49 5 (.aload_n 0) 1 := by decide +kernel
theorem d49_6 : DC c49 6 .arraylength 1 := by decide +kernel
theorem d49_7 : DC c49 7 (.if_icmp .eq 10) 3 := by decide +kernel
theorem d49_10 : DC c49 10 (.aload_n 0) 1 := by decide +kernel
theorem d49_11 : DC c49 11 (.iload_n 1) 1 := by decide +kernel
theorem d49_12 : DC c49 12 (.iload_n 2) 1 := by decide +kernel
theorem d49_13 : DC c49 13 (.invokestatic 339) 3 := by decide +kernel
theorem ef20 {x0 : Addr} {x1 : Int32} {x2 : Int32} (m : MethodId) : entryFrame m #[(.ref x0), (.int x1), (.int x2)] 5 = mkF m 0 #[.val (.ref x0), .val (.int x1), .val (.int x2), .unset, .unset] [] := by simp [entryFrame, mkF, argsToLocals, Value.category, maxLocals]
abbrev y54 : MethodName := ⟨"java/util/Arrays", "copyOfRangeByte", "([BII)[B"⟩
theorem B50 : BI y54 "java/util/Arrays" "copyOfRangeByte" := ⟨(plainFor_of_name pn_java_util_Arrays), rfl, rfl⟩
abbrev c50 := jdk_65_method_133_code
theorem d50_0 : DC c50 0 (.iload_n 1) 1 := by decide +kernel
theorem d50_1 : DC c50 1 (.iload_n 2) 1 := by decide +kernel
theorem d50_2 : DC c50 2 (.invokestatic 343) 3 := by decide +kernel
abbrev y55 : MethodName := ⟨"java/util/Arrays", "checkLength", "(II)V"⟩
theorem B51 : BI y55 "java/util/Arrays" "checkLength" := ⟨(plainFor_of_name pn_java_util_Arrays), rfl, rfl⟩
abbrev c51 := jdk_65_method_131_code
theorem d51_0 : DC c51 0 (.iload_n 1) 1 := by decide +kernel
theorem d51_1 : DC c51 1 (.iload_n 0) 1 := by decide +kernel
theorem d51_2 : DC c51 2 (.if_icmp .ge 35) 3 := by decide +kernel
theorem d51_37 : DC c51 37 .return_ 1 := by decide +kernel
abbrev M51 := MM y55 c51 2 none
theorem pd_34 : parseMethodDescriptor "(II)V" = some ⟨[.int, .int], none⟩ := by decide +kernel
def u46 : WS_static Z a0 "java/util/Arrays" 343 y55 c51 2 none 2 := ⟨(w325 G), (w326 G), (w98 G), (w327 G), by decide +kernel, lenN pd_34 rfl⟩
theorem d50_5 : DC c50 5 (.iload_n 2) 1 := by decide +kernel
theorem d50_6 : DC c50 6 (.iload_n 1) 1 := by decide +kernel
theorem d50_7 : DC c50 7 .isub 1 := by decide +kernel
theorem d50_8 : DC c50 8 (.istore_n 3) 1 := by decide +kernel
theorem d50_9 : DC c50 9 (.iload_n 3) 1 := by decide +kernel
theorem d50_10 : DC c50 10 (.newarray .byte) 2 := by decide +kernel
theorem d50_12 : DC c50 12 (.astore 4) 2 := by decide +kernel
theorem d50_14 : DC c50 14 (.aload_n 0) 1 := by decide +kernel
theorem d50_15 : DC c50 15 (.iload_n 1) 1 := by decide +kernel
theorem d50_16 : DC c50 16 (.aload 4) 2 := by decide +kernel
theorem d50_18 : DC c50 18 (.iconst 0) 1 := by decide +kernel
theorem d50_19 : DC c50 19 (.aload_n 0) 1 := by decide +kernel
theorem d50_20 : DC c50 20 .arraylength 1 := by decide +kernel
theorem d50_21 : DC c50 21 (.iload_n 1) 1 := by decide +kernel
theorem d50_22 : DC c50 22 .isub 1 := by decide +kernel
theorem d50_23 : DC c50 23 (.iload_n 3) 1 := by decide +kernel
theorem d50_24 : DC c50 24 (.invokestatic 304) 3 := by decide +kernel
theorem d19_9 : DC c19 9 (.iload_n 1) 1 := by decide +kernel
theorem d50_27 : DC c50 27 (.invokestatic 150) 3 := by decide +kernel
theorem d50_30 : DC c50 30 (.aload 4) 2 := by decide +kernel
theorem d50_32 : DC c50 32 .areturn 1 := by decide +kernel
abbrev M50 := MM y54 c50 5 (some (.array .byte))
theorem pd_35 : parseMethodDescriptor "([BII)[B" = some ⟨[(.array .byte), .int, .int], (some (.array .byte))⟩ := by decide +kernel
def u47 : WS_static Z a0 "java/util/Arrays" 339 y54 c50 5 (some (.array .byte)) 3 := ⟨(w322 G), (w323 G), (w98 G), (w324 G), by decide +kernel, lenN pd_35 rfl⟩
theorem d49_16 : DC c49 16 .areturn 1 := by decide +kernel
abbrev M49 := MM y53 c49 3 (some (.array .byte))
def u48 : WS_static Z a0 "java/lang/String" 54 y53 c49 3 (some (.array .byte)) 3 := ⟨(w319 G), (w320 G), (w98 G), (w321 G), by decide +kernel, lenN pd_35 rfl⟩
theorem d44_35 : DC c44 35 (.putfield 9) 3 := by decide +kernel
theorem d44_38 : DC c44 38 (.goto 59) 3 := by decide +kernel
theorem d44_97 : DC c44 97 .return_ 1 := by decide +kernel
abbrev M44 := MM y48 c44 5 none
theorem pd_36 : parseMethodDescriptor "(Ljava/lang/AbstractStringBuilder;Ljava/lang/Void;)V" = some ⟨[(.object "java/lang/AbstractStringBuilder"), (.object "java/lang/Void")], none⟩ := by decide +kernel
def u49 : WS_special Z a0 "java/lang/String" 489 y48 c44 5 2 := ⟨(w2 G), rfl, (w298 G), (w299 G), (w300 G), by decide +kernel, lenN pd_36 rfl⟩
theorem d43_6 : DC c43 6 .return_ 1 := by decide +kernel
abbrev M43 := MM y47 c43 2 none
theorem pd_37 : parseMethodDescriptor "(Ljava/lang/StringBuilder;)V" = some ⟨[(.object "java/lang/StringBuilder")], none⟩ := by decide +kernel
def u50 : WS_special Z a0 "java/lang/StringBuilder" 137 y47 c43 2 1 := ⟨(w2 G), rfl, (w295 G), (w296 G), (w297 G), by decide +kernel, lenN pd_37 rfl⟩
theorem d42_8 : DC c42 8 .areturn 1 := by decide +kernel
abbrev M42 := MM y46 c42 1 (some (.object "java/lang/String"))
def u51 : WS_virtual Z a0 "com/example/row_lease/rowlease/model/VersionGroup" 54 "java/lang/StringBuilder" y46 y46 c42 1 (some (.object "java/lang/String")) 0 := ⟨(w293 G), (w170 G), (w289 G), (w290 G), (w292 G), (w291 G), (nf_sel (w292 G)), by decide +kernel, lenN pd_30 rfl⟩
theorem d24_29 : DC c24 29 .areturn 1 := by decide +kernel
abbrev M24 := MM y24 c24 1 (some (.object "java/lang/String"))
def u52 : WS_virtual Z a0 "com/example/row_lease/rowlease/model/VersionGroupToStringPinLaw" 31 "com/example/row_lease/rowlease/model/VersionGroup" y24 y24 c24 1 (some (.object "java/lang/String")) 0 := ⟨(w167 G), (w74 G), (w163 G), (w164 G), (w166 G), (w165 G), (nf_sel (w166 G)), by decide +kernel, lenN pd_30 rfl⟩
abbrev y56 : MethodName := ⟨"java/lang/String", "equals", "(Ljava/lang/Object;)Z"⟩
theorem B52 : BI y56 "java/lang/String" "equals" := ⟨(plainFor_of_name pn_java_lang_String), rfl, rfl⟩
abbrev c52 := jdk_42_method_66_code
theorem d52_0 : DC c52 0 (.aload_n 0) 1 := by decide +kernel
theorem d52_1 : DC c52 1 (.aload_n 1) 1 := by decide +kernel
theorem d52_2 : DC c52 2 (.if_acmp .ne 5) 3 := by decide +kernel
theorem d52_7 : DC c52 7 (.aload_n 1) 1 := by decide +kernel
theorem d52_8 : DC c52 8 (.instanceof 10) 3 := by decide +kernel
theorem d52_11 : DC c52 11 (.ifCond .eq 43) 3 := by decide +kernel
theorem d52_14 : DC c52 14 (.aload_n 1) 1 := by decide +kernel
theorem d52_15 : DC c52 15 (.checkcast 10) 3 := by decide +kernel
theorem d52_18 : DC c52 18 (.astore_n 2) 1 := by decide +kernel
theorem d52_19 : DC c52 19 (.getstatic 38) 3 := by decide +kernel
theorem d52_22 : DC c52 22 (.ifCond .eq 14) 3 := by decide +kernel
theorem d52_25 : DC c52 25 (.aload_n 0) 1 := by decide +kernel
theorem d52_26 : DC c52 26 (.getfield 15) 3 := by decide +kernel
theorem d52_29 : DC c52 29 (.aload_n 2) 1 := by decide +kernel
theorem d52_30 : DC c52 30 (.getfield 15) 3 := by decide +kernel
theorem d52_33 : DC c52 33 (.if_icmp .ne 21) 3 := by decide +kernel
theorem d52_36 : DC c52 36 (.aload_n 0) 1 := by decide +kernel
theorem d52_37 : DC c52 37 (.getfield 9) 3 := by decide +kernel
theorem d52_40 : DC c52 40 (.aload_n 2) 1 := by decide +kernel
theorem d52_41 : DC c52 41 (.getfield 9) 3 := by decide +kernel
theorem d52_44 : DC c52 44 (.invokestatic 541) 3 := by decide +kernel
abbrev y57 : MethodName := ⟨"java/lang/StringLatin1", "equals", "([B[B)Z"⟩
theorem B53 : BI y57 "java/lang/StringLatin1" "equals" := ⟨(plainFor_of_name pn_java_lang_StringLatin1), rfl, rfl⟩
abbrev c53 := jdk_43_method_13_code
theorem d53_0 : DC c53 0 (.aload_n 0) 1 := by decide +kernel
theorem d53_1 : DC c53 1 .arraylength 1 := by decide +kernel
theorem d53_2 : DC c53 2 (.aload_n 1) 1 := by decide +kernel
theorem d53_3 : DC c53 3 .arraylength 1 := by decide +kernel
theorem d53_4 : DC c53 4 (.if_icmp .ne 30) 3 := by decide +kernel
theorem d53_7 : DC c53 7 (.iconst 0) 1 := by decide +kernel
theorem d53_8 : DC c53 8 (.istore_n 2) 1 := by decide +kernel
theorem d53_9 : DC c53 9 (.iload_n 2) 1 := by decide +kernel
theorem d53_10 : DC c53 10 (.aload_n 0) 1 := by decide +kernel
theorem d53_11 : DC c53 11 .arraylength 1 := by decide +kernel
theorem d53_12 : DC c53 12 (.if_icmp .ge 20) 3 := by decide +kernel
theorem d53_15 : DC c53 15 (.aload_n 0) 1 := by decide +kernel
theorem d53_16 : DC c53 16 (.iload_n 2) 1 := by decide +kernel
theorem d53_17 : DC c53 17 .baload 1 := by decide +kernel
theorem d53_18 : DC c53 18 (.aload_n 1) 1 := by decide +kernel
theorem d53_19 : DC c53 19 (.iload_n 2) 1 := by decide +kernel
theorem d53_20 : DC c53 20 .baload 1 := by decide +kernel
theorem d53_21 : DC c53 21 (.if_icmp .eq 5) 3 := by decide +kernel
theorem d53_26 : DC c53 26 (.iinc 2 1) 3 := by decide +kernel
theorem d53_29 : DC c53 29 (.goto (-20)) 3 := by decide +kernel
theorem d53_32 : DC c53 32 (.iconst 1) 1 := by decide +kernel
theorem d53_33 : DC c53 33 .ireturn 1 := by decide +kernel
abbrev M53 := MM y57 c53 3 (some .boolean)
theorem pd_38 : parseMethodDescriptor "([B[B)Z" = some ⟨[(.array .byte), (.array .byte)], (some .boolean)⟩ := by decide +kernel
def u53 : WS_static Z a0 "java/lang/String" 541 y57 c53 3 (some .boolean) 2 := ⟨(w333 G), (w334 G), (w7 G), (w335 G), by decide +kernel, lenN pd_38 rfl⟩
theorem d52_47 : DC c52 47 (.ifCond .eq 7) 3 := by decide +kernel
theorem d52_50 : DC c52 50 (.iconst 1) 1 := by decide +kernel
theorem d52_51 : DC c52 51 (.goto 4) 3 := by decide +kernel
theorem d52_55 : DC c52 55 .ireturn 1 := by decide +kernel
abbrev M52 := MM y56 c52 3 (some .boolean)
theorem pd_39 : parseMethodDescriptor "(Ljava/lang/Object;)Z" = some ⟨[(.object "java/lang/Object")], (some .boolean)⟩ := by decide +kernel
def u54 : WS_virtual Z a0 "com/example/row_lease/rowlease/model/VersionGroupToStringPinLaw" 35 "java/lang/String" y56 y56 c52 3 (some .boolean) 1 := ⟨(w332 G), (w2 G), (w328 G), (w329 G), (w331 G), (w330 G), (nf_sel (w331 G)), by decide +kernel, lenN pd_39 rfl⟩
theorem d5_34 : DC c5 34 (.iload_n 0) 1 := by decide +kernel
theorem d5_35 : DC c5 35 (.iconst 1) 1 := by decide +kernel
theorem d5_36 : DC c5 36 (.if_icmp .ne 37) 3 := by decide +kernel
theorem d5_39 : DC c5 39 (.new 8) 3 := by decide +kernel
theorem d5_42 : DC c5 42 .dup 1 := by decide +kernel
theorem d5_43 : DC c5 43 (.iconst 5) 1 := by decide +kernel
theorem d5_44 : DC c5 44 (.newarray .char) 2 := by decide +kernel
theorem d5_46 : DC c5 46 .dup 1 := by decide +kernel
theorem d5_47 : DC c5 47 (.iconst 0) 1 := by decide +kernel
theorem d5_48 : DC c5 48 (.iload_n 1) 1 := by decide +kernel
theorem d5_49 : DC c5 49 .castore 1 := by decide +kernel
theorem d5_50 : DC c5 50 .dup 1 := by decide +kernel
theorem d5_51 : DC c5 51 (.iconst 1) 1 := by decide +kernel
theorem d5_52 : DC c5 52 (.bipush 32) 2 := by decide +kernel
theorem d5_54 : DC c5 54 .castore 1 := by decide +kernel
theorem d5_55 : DC c5 55 .dup 1 := by decide +kernel
theorem d5_56 : DC c5 56 (.iconst 2) 1 := by decide +kernel
theorem d5_57 : DC c5 57 (.bipush 91) 2 := by decide +kernel
theorem d5_59 : DC c5 59 .castore 1 := by decide +kernel
theorem d5_60 : DC c5 60 .dup 1 := by decide +kernel
theorem d5_61 : DC c5 61 (.iconst 3) 1 := by decide +kernel
theorem d5_62 : DC c5 62 (.iload_n 2) 1 := by decide +kernel
theorem d5_63 : DC c5 63 .castore 1 := by decide +kernel
theorem d5_64 : DC c5 64 .dup 1 := by decide +kernel
theorem d5_65 : DC c5 65 (.iconst 4) 1 := by decide +kernel
theorem d5_66 : DC c5 66 (.bipush 93) 2 := by decide +kernel
theorem d5_68 : DC c5 68 .castore 1 := by decide +kernel
theorem d5_69 : DC c5 69 (.invokespecial 38) 3 := by decide +kernel
theorem d5_72 : DC c5 72 .areturn 1 := by decide +kernel
abbrev y58 : MethodName := ⟨"java/util/ArrayList", "add", "(Ljava/lang/Object;)Z"⟩
theorem B54 : BI y58 "java/util/ArrayList" "add" := ⟨(plainFor_of_name pn_java_util_ArrayList), rfl, rfl⟩
abbrev c54 := jdk_38_method_25_code
theorem d54_0 : DC c54 0 (.aload_n 0) 1 := by decide +kernel
theorem d54_1 : DC c54 1 .dup 1 := by decide +kernel
theorem d54_2 : DC c54 2 (.getfield 63) 3 := by decide +kernel
theorem d54_5 : DC c54 5 (.iconst 1) 1 := by decide +kernel
theorem d54_6 : DC c54 6 .iadd 1 := by decide +kernel
theorem d54_7 : DC c54 7 (.putfield 63) 3 := by decide +kernel
theorem d54_10 : DC c54 10 (.aload_n 0) 1 := by decide +kernel
theorem d54_11 : DC c54 11 (.aload_n 1) 1 := by decide +kernel
theorem d54_12 : DC c54 12 (.aload_n 0) 1 := by decide +kernel
theorem d54_13 : DC c54 13 (.getfield 9) 3 := by decide +kernel
theorem d54_16 : DC c54 16 (.aload_n 0) 1 := by decide +kernel
theorem d54_17 : DC c54 17 (.getfield 48) 3 := by decide +kernel
theorem d54_20 : DC c54 20 (.invokevirtual 131) 3 := by decide +kernel
theorem ef21 {x0 : Addr} {x1 : Addr} {x2 : Addr} {x3 : Int32} (m : MethodId) : entryFrame m #[(.ref x0), (.ref x1), (.ref x2), (.int x3)] 4 = mkF m 0 #[.val (.ref x0), .val (.ref x1), .val (.ref x2), .val (.int x3)] [] := by simp [entryFrame, mkF, argsToLocals, Value.category, maxLocals]
abbrev y59 : MethodName := ⟨"java/util/ArrayList", "add", "(Ljava/lang/Object;[Ljava/lang/Object;I)V"⟩
theorem B55 : BI y59 "java/util/ArrayList" "add" := ⟨(plainFor_of_name pn_java_util_ArrayList), rfl, rfl⟩
abbrev c55 := jdk_38_method_24_code
theorem d55_0 : DC c55 0 (.iload_n 3) 1 := by decide +kernel
theorem d55_1 : DC c55 1 (.aload_n 2) 1 := by decide +kernel
theorem d55_2 : DC c55 2 .arraylength 1 := by decide +kernel
theorem d55_3 : DC c55 3 (.if_icmp .ne 8) 3 := by decide +kernel
theorem d55_6 : DC c55 6 (.aload_n 0) 1 := by decide +kernel
theorem d55_7 : DC c55 7 (.invokevirtual 129) 3 := by decide +kernel
abbrev y60 : MethodName := ⟨"java/util/ArrayList", "grow", "()[Ljava/lang/Object;"⟩
theorem B56 : BI y60 "java/util/ArrayList" "grow" := ⟨(plainFor_of_name pn_java_util_ArrayList), rfl, rfl⟩
abbrev c56 := jdk_38_method_7_code
theorem d56_0 : DC c56 0 (.aload_n 0) 1 := by decide +kernel
theorem d56_1 : DC c56 1 (.aload_n 0) 1 := by decide +kernel
theorem d56_2 : DC c56 2 (.getfield 48) 3 := by decide +kernel
theorem d56_5 : DC c56 5 (.iconst 1) 1 := by decide +kernel
theorem d56_6 : DC c56 6 .iadd 1 := by decide +kernel
theorem d56_7 : DC c56 7 (.invokevirtual 69) 3 := by decide +kernel
theorem ef22 {x0 : Addr} {x1 : Int32} (m : MethodId) : entryFrame m #[(.ref x0), (.int x1)] 4 = mkF m 0 #[.val (.ref x0), .val (.int x1), .unset, .unset] [] := by simp [entryFrame, mkF, argsToLocals, Value.category, maxLocals]
abbrev y61 : MethodName := ⟨"java/util/ArrayList", "grow", "(I)[Ljava/lang/Object;"⟩
theorem B57 : BI y61 "java/util/ArrayList" "grow" := ⟨(plainFor_of_name pn_java_util_ArrayList), rfl, rfl⟩
abbrev c57 := jdk_38_method_6_code
theorem d57_0 : DC c57 0 (.aload_n 0) 1 := by decide +kernel
theorem d57_1 : DC c57 1 (.getfield 9) 3 := by decide +kernel
theorem d57_4 : DC c57 4 .arraylength 1 := by decide +kernel
theorem d57_5 : DC c57 5 (.istore_n 2) 1 := by decide +kernel
theorem d57_6 : DC c57 6 (.iload_n 2) 1 := by decide +kernel
theorem d57_7 : DC c57 7 (.ifCond .gt 13) 3 := by decide +kernel
theorem d57_10 : DC c57 10 (.aload_n 0) 1 := by decide +kernel
theorem d57_11 : DC c57 11 (.getfield 9) 3 := by decide +kernel
theorem d57_14 : DC c57 14 (.getstatic 39) 3 := by decide +kernel
theorem d57_17 : DC c57 17 (.if_acmp .eq 28) 3 := by decide +kernel
theorem d57_45 : DC c57 45 (.aload_n 0) 1 := by decide +kernel
theorem d57_46 : DC c57 46 (.bipush 10) 2 := by decide +kernel
theorem d57_48 : DC c57 48 (.iload_n 1) 1 := by decide +kernel
theorem d57_49 : DC c57 49 (.invokestatic 79) 3 := by decide +kernel
theorem pf_58 : plainFor ⟨"java/lang/Math", "max", "(II)I"⟩ = true := by decide +kernel
abbrev y62 : MethodName := ⟨"java/lang/Math", "max", "(II)I"⟩
theorem B58 : BI y62 "java/lang/Math" "max" := ⟨pf_58, rfl, rfl⟩
abbrev c58 := jdk_29_method_65_code
theorem d58_0 : DC c58 0 (.iload_n 0) 1 := by decide +kernel
theorem d58_1 : DC c58 1 (.iload_n 1) 1 := by decide +kernel
theorem d58_2 : DC c58 2 (.if_icmp .lt 7) 3 := by decide +kernel
theorem d58_5 : DC c58 5 (.iload_n 0) 1 := by decide +kernel
theorem d58_6 : DC c58 6 (.goto 4) 3 := by decide +kernel
theorem d58_10 : DC c58 10 .ireturn 1 := by decide +kernel
abbrev M58 := MM y62 c58 2 (some .int)
def u55 : WS_static Z a0 "java/util/ArrayList" 79 y62 c58 2 (some .int) 2 := ⟨(w357 G), (w358 G), (w114 G), (w359 G), by decide +kernel, lenN pd_11 rfl⟩
theorem d57_52 : DC c57 52 (.anewarray 7) 3 := by decide +kernel
theorem d57_55 : DC c57 55 .dup_x1 1 := by decide +kernel
theorem d57_56 : DC c57 56 (.putfield 9) 3 := by decide +kernel
theorem d57_59 : DC c57 59 .areturn 1 := by decide +kernel
abbrev M57 := MM y61 c57 4 (some (.array (.object "java/lang/Object")))
theorem pd_40 : parseMethodDescriptor "(I)[Ljava/lang/Object;" = some ⟨[.int], (some (.array (.object "java/lang/Object")))⟩ := by decide +kernel
def u56 : WS_virtual Z a0 "java/util/ArrayList" 69 "java/util/ArrayList" y61 y61 c57 4 (some (.array (.object "java/lang/Object"))) 1 := ⟨(w356 G), (w50 G), (w352 G), (own_decl (w353 G) (w356 G)), (w355 G), (w353 G), (nf_sel (w355 G)), by decide +kernel, lenN pd_40 rfl⟩
theorem d56_10 : DC c56 10 .areturn 1 := by decide +kernel
abbrev M56 := MM y60 c56 1 (some (.array (.object "java/lang/Object")))
def u57 : WS_virtual Z a0 "java/util/ArrayList" 129 "java/util/ArrayList" y60 y60 c56 1 (some (.array (.object "java/lang/Object"))) 0 := ⟨(w351 G), (w50 G), (w347 G), (own_decl (w348 G) (w351 G)), (w350 G), (w348 G), (nf_sel (w350 G)), by decide +kernel, lenN pd_14 rfl⟩
theorem d55_10 : DC c55 10 (.astore_n 2) 1 := by decide +kernel
theorem d55_11 : DC c55 11 (.aload_n 2) 1 := by decide +kernel
theorem d55_12 : DC c55 12 (.iload_n 3) 1 := by decide +kernel
theorem d55_13 : DC c55 13 (.aload_n 1) 1 := by decide +kernel
theorem d55_14 : DC c55 14 .aastore 1 := by decide +kernel
theorem d55_15 : DC c55 15 (.aload_n 0) 1 := by decide +kernel
theorem d55_16 : DC c55 16 (.iload_n 3) 1 := by decide +kernel
theorem d55_17 : DC c55 17 (.iconst 1) 1 := by decide +kernel
theorem d55_18 : DC c55 18 .iadd 1 := by decide +kernel
theorem d55_19 : DC c55 19 (.putfield 48) 3 := by decide +kernel
theorem d55_22 : DC c55 22 .return_ 1 := by decide +kernel
abbrev M55 := MM y59 c55 4 none
theorem pd_41 : parseMethodDescriptor "(Ljava/lang/Object;[Ljava/lang/Object;I)V" = some ⟨[(.object "java/lang/Object"), (.array (.object "java/lang/Object")), .int], none⟩ := by decide +kernel
def u58 : WS_virtual Z a0 "java/util/ArrayList" 131 "java/util/ArrayList" y59 y59 c55 4 none 3 := ⟨(w346 G), (w50 G), (w342 G), (own_decl (w343 G) (w346 G)), (w345 G), (w343 G), (nf_sel (w345 G)), by decide +kernel, lenN pd_41 rfl⟩
theorem d54_23 : DC c54 23 (.iconst 1) 1 := by decide +kernel
theorem d54_24 : DC c54 24 .ireturn 1 := by decide +kernel
abbrev M54 := MM y58 c54 2 (some .boolean)
def u59 : WS_virtual Z a0 "com/example/row_lease/rowlease/model/VersionGroupToStringPinLaw" 22 "java/util/ArrayList" y58 y58 c54 2 (some .boolean) 1 := ⟨(w340 G), (w50 G), (w336 G), (w337 G), (w339 G), (w338 G), (nf_sel (w339 G)), by decide +kernel, lenN pd_39 rfl⟩
theorem d15_21 : DC c15 21 (.aload_n 1) 1 := by decide +kernel
theorem d15_22 : DC c15 22 (.invokeinterface 52 1) 5 := by decide +kernel
theorem d15_27 : DC c15 27 (.ldc 10) 2 := by decide +kernel
theorem d15_29 : DC c15 29 (.if_acmp .ne 11) 3 := by decide +kernel
theorem d15_32 : DC c15 32 (.aload_n 0) 1 := by decide +kernel
theorem d15_33 : DC c15 33 (.aload_n 2) 1 := by decide +kernel
theorem d15_34 : DC c15 34 (.putfield 9) 3 := by decide +kernel
theorem d15_37 : DC c15 37 (.goto 27) 3 := by decide +kernel
theorem d41_14 : DC c41 14 (.iconst 1) 1 := by decide +kernel
theorem d41_15 : DC c41 15 (.goto 4) 3 := by decide +kernel
theorem d38_17 : DC c38 17 (.new 94) 3 := by decide +kernel
theorem d38_20 : DC c38 20 .dup 1 := by decide +kernel
theorem d38_21 : DC c38 21 (.invokespecial 96) 3 := by decide +kernel
def u60 : WS_special Z a0 "java/util/AbstractCollection" 96 y25 c25 1 0 := ⟨(w170 G), rfl, (w367 G), (w172 G), (w173 G), by decide +kernel, lenN pd_10 rfl⟩
theorem d38_24 : DC c38 24 (.astore_n 2) 1 := by decide +kernel
theorem d38_25 : DC c38 25 (.aload_n 2) 1 := by decide +kernel
theorem d38_26 : DC c38 26 (.bipush 91) 2 := by decide +kernel
theorem d38_28 : DC c38 28 (.invokevirtual 97) 3 := by decide +kernel
abbrev y63 : MethodName := ⟨"java/lang/StringBuilder", "append", "(C)Ljava/lang/StringBuilder;"⟩
theorem B59 : BI y63 "java/lang/StringBuilder" "append" := ⟨(plainFor_of_name pn_java_lang_StringBuilder), rfl, rfl⟩
abbrev c59 := jdk_67_method_14_code
theorem d59_0 : DC c59 0 (.aload_n 0) 1 := by decide +kernel
theorem d59_1 : DC c59 1 (.iload_n 1) 1 := by decide +kernel
theorem d59_2 : DC c59 2 (.invokespecial 50) 3 := by decide +kernel
abbrev y64 : MethodName := ⟨"java/lang/AbstractStringBuilder", "append", "(C)Ljava/lang/AbstractStringBuilder;"⟩
theorem B60 : BI y64 "java/lang/AbstractStringBuilder" "append" := ⟨(plainFor_of_name pn_java_lang_AbstractStringBuilder), rfl, rfl⟩
abbrev c60 := jdk_68_method_31_code
theorem d60_0 : DC c60 0 (.aload_n 0) 1 := by decide +kernel
theorem d60_1 : DC c60 1 (.aload_n 0) 1 := by decide +kernel
theorem d60_2 : DC c60 2 (.getfield 79) 3 := by decide +kernel
theorem d60_5 : DC c60 5 (.iconst 1) 1 := by decide +kernel
theorem d60_6 : DC c60 6 .iadd 1 := by decide +kernel
theorem d60_7 : DC c60 7 (.invokevirtual 100) 3 := by decide +kernel
theorem d60_10 : DC c60 10 (.aload_n 0) 1 := by decide +kernel
theorem d60_11 : DC c60 11 (.invokevirtual 83) 3 := by decide +kernel
def u61 : WS_virtual Z a0 "java/lang/AbstractStringBuilder" 83 "java/lang/StringBuilder" y52 y52 c48 1 (some .boolean) 0 := ⟨(w318 G), (w178 G), (w378 G), (w315 G), (w317 G), (w316 G), (nf_sel (w317 G)), by decide +kernel, lenN pd_29 rfl⟩
theorem d60_14 : DC c60 14 (.ifCond .eq 31) 3 := by decide +kernel
theorem d60_17 : DC c60 17 (.iload_n 1) 1 := by decide +kernel
theorem d60_18 : DC c60 18 (.invokestatic 191) 3 := by decide +kernel
def u62 : WS_static Z a0 "java/lang/AbstractStringBuilder" 191 y1 c2 1 (some .boolean) 1 := ⟨(w379 G), (w6 G), (w7 G), (w8 G), by decide +kernel, lenN pd_0 rfl⟩
theorem d60_21 : DC c60 21 (.ifCond .eq 24) 3 := by decide +kernel
theorem d60_24 : DC c60 24 (.aload_n 0) 1 := by decide +kernel
theorem d60_25 : DC c60 25 (.getfield 15) 3 := by decide +kernel
theorem d60_28 : DC c60 28 (.aload_n 0) 1 := by decide +kernel
theorem d60_29 : DC c60 29 .dup 1 := by decide +kernel
theorem d60_30 : DC c60 30 (.getfield 79) 3 := by decide +kernel
theorem d60_33 : DC c60 33 .dup_x1 1 := by decide +kernel
theorem d60_34 : DC c60 34 (.iconst 1) 1 := by decide +kernel
theorem d60_35 : DC c60 35 .iadd 1 := by decide +kernel
theorem d60_36 : DC c60 36 (.putfield 79) 3 := by decide +kernel
theorem d60_39 : DC c60 39 (.iload_n 1) 1 := by decide +kernel
theorem d60_40 : DC c60 40 .i2b 1 := by decide +kernel
theorem d60_41 : DC c60 41 .bastore 1 := by decide +kernel
theorem d60_42 : DC c60 42 (.goto 33) 3 := by decide +kernel
theorem d60_75 : DC c60 75 (.aload_n 0) 1 := by decide +kernel
theorem d60_76 : DC c60 76 .areturn 1 := by decide +kernel
abbrev M60 := MM y64 c60 2 (some (.object "java/lang/AbstractStringBuilder"))
theorem pd_42 : parseMethodDescriptor "(C)Ljava/lang/AbstractStringBuilder;" = some ⟨[.char], (some (.object "java/lang/AbstractStringBuilder"))⟩ := by decide +kernel
def u63 : WS_super Z a0 "java/lang/StringBuilder" 50 y64 c60 2 (some (.object "java/lang/AbstractStringBuilder")) "java/lang/StringBuilder" 1 := ⟨(w178 G), (w374 G), own_same (w375 G) (own_nfZ (w211 G) rfl) (by decide), (w375 G), (w193 G), by decide +kernel, (w377 G), lenN pd_42 rfl⟩
theorem d59_5 : DC c59 5 .pop 1 := by decide +kernel
theorem d59_6 : DC c59 6 (.aload_n 0) 1 := by decide +kernel
theorem d59_7 : DC c59 7 .areturn 1 := by decide +kernel
abbrev M59 := MM y63 c59 2 (some (.object "java/lang/StringBuilder"))
theorem pd_43 : parseMethodDescriptor "(C)Ljava/lang/StringBuilder;" = some ⟨[.char], (some (.object "java/lang/StringBuilder"))⟩ := by decide +kernel
def u64 : WS_virtual Z a0 "java/util/AbstractCollection" 97 "java/lang/StringBuilder" y63 y63 c59 2 (some (.object "java/lang/StringBuilder")) 1 := ⟨(w373 G), (w170 G), (w369 G), (w370 G), (w372 G), (w371 G), (nf_sel (w372 G)), by decide +kernel, lenN pd_43 rfl⟩
theorem d38_31 : DC c38 31 .pop 1 := by decide +kernel
theorem d38_32 : DC c38 32 (.aload_n 1) 1 := by decide +kernel
theorem d38_33 : DC c38 33 (.invokeinterface 23 1) 5 := by decide +kernel
theorem ef23 {x0 : Addr} (m : MethodId) : entryFrame m #[(.ref x0)] 3 = mkF m 0 #[.val (.ref x0), .unset, .unset] [] := by simp [entryFrame, mkF, argsToLocals, Value.category, maxLocals]
abbrev y65 : MethodName := ⟨"java/util/ArrayList$Itr", "next", "()Ljava/lang/Object;"⟩
theorem B61 : BI y65 "java/util/ArrayList$Itr" "next" := ⟨(plainFor_of_name pn_java_util_ArrayList_Itr), rfl, rfl⟩
abbrev c61 := jdk_49_method_3_code
theorem d61_0 : DC c61 0 (.aload_n 0) 1 := by decide +kernel
theorem d61_1 : DC c61 1 (.invokevirtual 31) 3 := by decide +kernel
abbrev y66 : MethodName := ⟨"java/util/ArrayList$Itr", "checkForComodification", "()V"⟩
theorem B62 : BI y66 "java/util/ArrayList$Itr" "checkForComodification" := ⟨(plainFor_of_name pn_java_util_ArrayList_Itr), rfl, rfl⟩
abbrev c62 := jdk_49_method_6_code
theorem d62_0 : DC c62 0 (.aload_n 0) 1 := by decide +kernel
theorem d62_1 : DC c62 1 (.getfield 1) 3 := by decide +kernel
theorem d62_4 : DC c62 4 (.getfield 17) 3 := by decide +kernel
theorem d62_7 : DC c62 7 (.aload_n 0) 1 := by decide +kernel
theorem d62_8 : DC c62 8 (.getfield 22) 3 := by decide +kernel
theorem d62_11 : DC c62 11 (.if_icmp .eq 11) 3 := by decide +kernel
theorem d62_22 : DC c62 22 .return_ 1 := by decide +kernel
abbrev M62 := MM y66 c62 1 none
def u65 : WS_virtual Z a0 "java/util/ArrayList$Itr" 31 "java/util/ArrayList$Itr" y66 y66 c62 1 none 0 := ⟨(w392 G), (w261 G), (w388 G), (w389 G), (w391 G), (w390 G), (nf_sel (w391 G)), by decide +kernel, lenN pd_10 rfl⟩
theorem d61_4 : DC c61 4 (.aload_n 0) 1 := by decide +kernel
theorem d61_5 : DC c61 5 (.getfield 25) 3 := by decide +kernel
theorem d61_8 : DC c61 8 (.istore_n 1) 1 := by decide +kernel
theorem d61_9 : DC c61 9 (.iload_n 1) 1 := by decide +kernel
theorem d61_10 : DC c61 10 (.aload_n 0) 1 := by decide +kernel
theorem d61_11 : DC c61 11 (.getfield 1) 3 := by decide +kernel
theorem d61_14 : DC c61 14 (.getfield 28) 3 := by decide +kernel
theorem d61_17 : DC c61 17 (.if_icmp .lt 11) 3 := by decide +kernel
theorem d61_28 : DC c61 28 (.aload_n 0) 1 := by decide +kernel
theorem d61_29 : DC c61 29 (.getfield 1) 3 := by decide +kernel
theorem d61_32 : DC c61 32 (.getfield 37) 3 := by decide +kernel
theorem d61_35 : DC c61 35 (.astore_n 2) 1 := by decide +kernel
theorem d61_36 : DC c61 36 (.iload_n 1) 1 := by decide +kernel
theorem d61_37 : DC c61 37 (.aload_n 2) 1 := by decide +kernel
theorem d61_38 : DC c61 38 .arraylength 1 := by decide +kernel
theorem d61_39 : DC c61 39 (.if_icmp .lt 11) 3 := by decide +kernel
theorem d61_50 : DC c61 50 (.aload_n 0) 1 := by decide +kernel
theorem d61_51 : DC c61 51 (.iload_n 1) 1 := by decide +kernel
theorem d61_52 : DC c61 52 (.iconst 1) 1 := by decide +kernel
theorem d61_53 : DC c61 53 .iadd 1 := by decide +kernel
theorem d61_54 : DC c61 54 (.putfield 25) 3 := by decide +kernel
theorem d61_57 : DC c61 57 (.aload_n 2) 1 := by decide +kernel
theorem d61_58 : DC c61 58 (.aload_n 0) 1 := by decide +kernel
theorem d61_59 : DC c61 59 (.iload_n 1) 1 := by decide +kernel
theorem d61_60 : DC c61 60 .dup_x1 1 := by decide +kernel
theorem d61_61 : DC c61 61 (.putfield 13) 3 := by decide +kernel
def sn27 := slot_ne (Or.inl (w270 G)) (Or.inl (w285 G)) (by decide +kernel) (t := .int) (t' := .int) fd_2 fd_2
theorem d61_64 : DC c61 64 .aaload 1 := by decide +kernel
theorem d61_65 : DC c61 65 .areturn 1 := by decide +kernel
def sn28 := slot_ne (Or.inl (w274 G)) (Or.inl (w285 G)) (by decide +kernel) (t := .int) (t' := .int) fd_2 fd_2
def sn29 := slot_ne (Or.inr (w267 G)) (Or.inl (w285 G)) (by decide +kernel) (t := (.object "java/util/ArrayList")) (t' := .int) fd_7 fd_2
abbrev M61 := MM y65 c61 3 (some (.object "java/lang/Object"))
theorem pd_44 : parseMethodDescriptor "()Ljava/lang/Object;" = some ⟨[], (some (.object "java/lang/Object"))⟩ := by decide +kernel
abbrev y67 : MethodName := ⟨"java/util/Iterator", "next", "()Ljava/lang/Object;"⟩
def u66 : WS_iface Z a0 "java/util/AbstractCollection" 23 "java/util/ArrayList$Itr" y67 y65 c61 3 (some (.object "java/lang/Object")) 0 := ⟨(w387 G), (w261 G), (w380 G), (w381 G), (w382 G), (w383 G), (w384 G), (w385 G), (w386 G), (w282 G), by first | rfl | simp [Cond.onTables, Cond.keepsFace, Cond.keeps, Cond.steady], by decide +kernel, lenN pd_44 rfl⟩
theorem d38_38 : DC c38 38 (.astore_n 3) 1 := by decide +kernel
theorem d38_39 : DC c38 39 (.aload_n 2) 1 := by decide +kernel
theorem d38_40 : DC c38 40 (.aload_n 3) 1 := by decide +kernel
theorem d38_41 : DC c38 41 (.aload_n 0) 1 := by decide +kernel
theorem d38_42 : DC c38 42 (.if_acmp .ne 8) 3 := by decide +kernel
theorem d38_50 : DC c38 50 (.aload_n 3) 1 := by decide +kernel
theorem d38_51 : DC c38 51 (.invokevirtual 103) 3 := by decide +kernel
abbrev y68 : MethodName := ⟨"java/lang/String", "toString", "()Ljava/lang/String;"⟩
theorem B63 : BI y68 "java/lang/String" "toString" := ⟨(plainFor_of_name pn_java_lang_String), rfl, rfl⟩
abbrev c63 := jdk_42_method_126_code
theorem d63_0 : DC c63 0 (.aload_n 0) 1 := by decide +kernel
theorem d63_1 : DC c63 1 .areturn 1 := by decide +kernel
abbrev M63 := MM y68 c63 1 (some (.object "java/lang/String"))
def u67 : WS_virtual Z a0 "java/lang/String" 1007 "java/lang/String" y45 y68 c63 1 (some (.object "java/lang/String")) 0 := ⟨(w397 G), (w2 G), (w241 G), (w242 G), (w395 G), (w396 G), (own_nfZ (w103 G) rfl), by decide +kernel, lenN pd_30 rfl⟩
def u68 : WS_virtual Z a0 "java/util/AbstractCollection" 103 "java/lang/StringBuilder" y35 y35 c35 2 (some (.object "java/lang/StringBuilder")) 1 := ⟨(w237 G), (w170 G), (w394 G), (w234 G), (w236 G), (w235 G), (nf_sel (w236 G)), by decide +kernel, lenN pd_32 rfl⟩
theorem d38_54 : DC c38 54 .pop 1 := by decide +kernel
theorem d38_55 : DC c38 55 (.aload_n 1) 1 := by decide +kernel
theorem d38_56 : DC c38 56 (.invokeinterface 17 1) 5 := by decide +kernel
theorem d38_61 : DC c38 61 (.ifCond .ne 13) 3 := by decide +kernel
theorem d38_64 : DC c38 64 (.aload_n 2) 1 := by decide +kernel
theorem d38_65 : DC c38 65 (.bipush 93) 2 := by decide +kernel
theorem d38_67 : DC c38 67 (.invokevirtual 97) 3 := by decide +kernel
theorem d38_70 : DC c38 70 (.invokevirtual 106) 3 := by decide +kernel
def u69 : WS_virtual Z a0 "java/util/AbstractCollection" 106 "java/lang/StringBuilder" y46 y46 c42 1 (some (.object "java/lang/String")) 0 := ⟨(w293 G), (w170 G), (w398 G), (w290 G), (w292 G), (w291 G), (nf_sel (w292 G)), by decide +kernel, lenN pd_30 rfl⟩
theorem d38_73 : DC c38 73 .areturn 1 := by decide +kernel
theorem d5_73 : DC c5 73 (.iload_n 0) 1 := by decide +kernel
theorem d5_74 : DC c5 74 (.iconst 2) 1 := by decide +kernel
theorem d5_75 : DC c5 75 (.if_icmp .ne 54) 3 := by decide +kernel
theorem d5_78 : DC c5 78 (.new 8) 3 := by decide +kernel
theorem d5_81 : DC c5 81 .dup 1 := by decide +kernel
theorem d5_82 : DC c5 82 (.bipush 8) 2 := by decide +kernel
theorem d5_84 : DC c5 84 (.newarray .char) 2 := by decide +kernel
theorem d5_86 : DC c5 86 .dup 1 := by decide +kernel
theorem d5_87 : DC c5 87 (.iconst 0) 1 := by decide +kernel
theorem d5_88 : DC c5 88 (.iload_n 1) 1 := by decide +kernel
theorem d5_89 : DC c5 89 .castore 1 := by decide +kernel
theorem d5_90 : DC c5 90 .dup 1 := by decide +kernel
theorem d5_91 : DC c5 91 (.iconst 1) 1 := by decide +kernel
theorem d5_92 : DC c5 92 (.bipush 32) 2 := by decide +kernel
theorem d5_94 : DC c5 94 .castore 1 := by decide +kernel
theorem d5_95 : DC c5 95 .dup 1 := by decide +kernel
theorem d5_96 : DC c5 96 (.iconst 2) 1 := by decide +kernel
theorem d5_97 : DC c5 97 (.bipush 91) 2 := by decide +kernel
theorem d5_99 : DC c5 99 .castore 1 := by decide +kernel
theorem d5_100 : DC c5 100 .dup 1 := by decide +kernel
theorem d5_101 : DC c5 101 (.iconst 3) 1 := by decide +kernel
theorem d5_102 : DC c5 102 (.iload_n 2) 1 := by decide +kernel
theorem d5_103 : DC c5 103 .castore 1 := by decide +kernel
theorem d5_104 : DC c5 104 .dup 1 := by decide +kernel
theorem d5_105 : DC c5 105 (.iconst 4) 1 := by decide +kernel
theorem d5_106 : DC c5 106 (.bipush 44) 2 := by decide +kernel
theorem d5_108 : DC c5 108 .castore 1 := by decide +kernel
theorem d5_109 : DC c5 109 .dup 1 := by decide +kernel
theorem d5_110 : DC c5 110 (.iconst 5) 1 := by decide +kernel
theorem d5_111 : DC c5 111 (.bipush 32) 2 := by decide +kernel
theorem d5_113 : DC c5 113 .castore 1 := by decide +kernel
theorem d5_114 : DC c5 114 .dup 1 := by decide +kernel
theorem d5_115 : DC c5 115 (.bipush 6) 2 := by decide +kernel
theorem d5_117 : DC c5 117 (.iload_n 3) 1 := by decide +kernel
theorem d5_118 : DC c5 118 .castore 1 := by decide +kernel
theorem d5_119 : DC c5 119 .dup 1 := by decide +kernel
theorem d5_120 : DC c5 120 (.bipush 7) 2 := by decide +kernel
theorem d5_122 : DC c5 122 (.bipush 93) 2 := by decide +kernel
theorem d5_124 : DC c5 124 .castore 1 := by decide +kernel
theorem d5_125 : DC c5 125 (.invokespecial 38) 3 := by decide +kernel
theorem d5_128 : DC c5 128 .areturn 1 := by decide +kernel
theorem d38_74 : DC c38 74 (.aload_n 2) 1 := by decide +kernel
theorem d38_75 : DC c38 75 (.bipush 44) 2 := by decide +kernel
theorem d38_77 : DC c38 77 (.invokevirtual 97) 3 := by decide +kernel
theorem d38_80 : DC c38 80 (.bipush 32) 2 := by decide +kernel
theorem d38_82 : DC c38 82 (.invokevirtual 97) 3 := by decide +kernel
theorem d38_85 : DC c38 85 .pop 1 := by decide +kernel
theorem d38_86 : DC c38 86 (.goto (-54)) 3 := by decide +kernel
theorem d5_129 : DC c5 129 (.new 8) 3 := by decide +kernel
theorem d5_132 : DC c5 132 .dup 1 := by decide +kernel
theorem d5_133 : DC c5 133 (.bipush 11) 2 := by decide +kernel
theorem d5_135 : DC c5 135 (.newarray .char) 2 := by decide +kernel
theorem d5_137 : DC c5 137 .dup 1 := by decide +kernel
theorem d5_138 : DC c5 138 (.iconst 0) 1 := by decide +kernel
theorem d5_139 : DC c5 139 (.iload_n 1) 1 := by decide +kernel
theorem d5_140 : DC c5 140 .castore 1 := by decide +kernel
theorem d5_141 : DC c5 141 .dup 1 := by decide +kernel
theorem d5_142 : DC c5 142 (.iconst 1) 1 := by decide +kernel
theorem d5_143 : DC c5 143 (.bipush 32) 2 := by decide +kernel
theorem d5_145 : DC c5 145 .castore 1 := by decide +kernel
theorem d5_146 : DC c5 146 .dup 1 := by decide +kernel
theorem d5_147 : DC c5 147 (.iconst 2) 1 := by decide +kernel
theorem d5_148 : DC c5 148 (.bipush 91) 2 := by decide +kernel
theorem d5_150 : DC c5 150 .castore 1 := by decide +kernel
theorem d5_151 : DC c5 151 .dup 1 := by decide +kernel
theorem d5_152 : DC c5 152 (.iconst 3) 1 := by decide +kernel
theorem d5_153 : DC c5 153 (.iload_n 2) 1 := by decide +kernel
theorem d5_154 : DC c5 154 .castore 1 := by decide +kernel
theorem d5_155 : DC c5 155 .dup 1 := by decide +kernel
theorem d5_156 : DC c5 156 (.iconst 4) 1 := by decide +kernel
theorem d5_157 : DC c5 157 (.bipush 44) 2 := by decide +kernel
theorem d5_159 : DC c5 159 .castore 1 := by decide +kernel
theorem d5_160 : DC c5 160 .dup 1 := by decide +kernel
theorem d5_161 : DC c5 161 (.iconst 5) 1 := by decide +kernel
theorem d5_162 : DC c5 162 (.bipush 32) 2 := by decide +kernel
theorem d5_164 : DC c5 164 .castore 1 := by decide +kernel
theorem d5_165 : DC c5 165 .dup 1 := by decide +kernel
theorem d5_166 : DC c5 166 (.bipush 6) 2 := by decide +kernel
theorem d5_168 : DC c5 168 (.iload_n 3) 1 := by decide +kernel
theorem d5_169 : DC c5 169 .castore 1 := by decide +kernel
theorem d5_170 : DC c5 170 .dup 1 := by decide +kernel
theorem d5_171 : DC c5 171 (.bipush 7) 2 := by decide +kernel
theorem d5_173 : DC c5 173 (.bipush 44) 2 := by decide +kernel
theorem d5_175 : DC c5 175 .castore 1 := by decide +kernel
theorem d5_176 : DC c5 176 .dup 1 := by decide +kernel
theorem d5_177 : DC c5 177 (.bipush 8) 2 := by decide +kernel
theorem d5_179 : DC c5 179 (.bipush 32) 2 := by decide +kernel
theorem d5_181 : DC c5 181 .castore 1 := by decide +kernel
theorem d5_182 : DC c5 182 .dup 1 := by decide +kernel
theorem d5_183 : DC c5 183 (.bipush 9) 2 := by decide +kernel
theorem d5_185 : DC c5 185 (.iload 4) 2 := by decide +kernel
theorem d5_187 : DC c5 187 .castore 1 := by decide +kernel
theorem d5_188 : DC c5 188 .dup 1 := by decide +kernel
theorem d5_189 : DC c5 189 (.bipush 10) 2 := by decide +kernel
theorem d5_191 : DC c5 191 (.bipush 93) 2 := by decide +kernel
theorem d5_193 : DC c5 193 .castore 1 := by decide +kernel
theorem d5_194 : DC c5 194 (.invokespecial 38) 3 := by decide +kernel
theorem d5_197 : DC c5 197 .areturn 1 := by decide +kernel
end Words
theorem ltg_dce (G : GL l Z a0 zc dce kdce eed keed mroa mral mrul mrur) {n0 : Nat} {h0 : Heap} (O0 : Old Z n0 h0) : n0 > dce := by have q := O0.1; have r : Z.heap.size > dce := (G.2.2.2.2.2.1).lt; omega
theorem ltg_eed (G : GL l Z a0 zc dce kdce eed keed mroa mral mrul mrur) {n0 : Nat} {h0 : Heap} (O0 : Old Z n0 h0) : n0 > eed := by have q := O0.1; have r : Z.heap.size > eed := (G.2.2.2.2.2.2.2.2.1).lt; omega
variable {h0 : Heap} {n0 : Nat} {pa1 pa10 pa11 pa12 pa2 pa3 pa4 pa5 pa6 pa7 pa8 pa9 : Addr} {pi1 pi10 pi100 pi101 pi102 pi103 pi104 pi105 pi106 pi107 pi108 pi109 pi11 pi110 pi111 pi12 pi13 pi2 pi3 pi4 pi5 pi6 pi7 pi8 pi9 : Int32} {pk1 pk2 pk3 pk4 pk5 : ClassId} {ps_pa1 ps_pa2 : List Value}
def Q0 (Z : State) (h0 : Heap) (v : Option Value) (h : Heap) (vm : Vm) : Prop := v = some (.int 1)
theorem rm_au0 (G : GL l Z a0 zc dce kdce eed keed mroa mral mrul mrur) (rg_pi1 : ¬ pi1 < 0 ∧ ¬ (255 : Int32) < pi1) : M2 l Z 0 0 0 0 #[.int pi1] h0 n0 [] [] (Q0 Z  h0) := by
  refine mi B2 ef1 (hEW G) fun s X0 hsf0 n0le => ?_
  refine oI 1 X0 d2_0 rfl rfl <| o_sipush 4 (v := 255) X0 d2_1 rfl (by decide) <| oN 7 X0 d2_4 rfl (flt rg_pi1.2).2.2.1 <| oc 8 (v := 1) X0 d2_7 rfl (by decide) <| og 12 X0 d2_8 (by decide) ?_
  exact o_nret (y := (1 : Int32)) (t := .boolean) X0 d2_12 rfl (by decide) (by simp) (by decide) (by decide) (fun _ CC => rfl)
def Q1 (Z : State) (b1 : Int32) (h0 : Heap) (v : Option Value) (h : Heap) (vm : Vm) : Prop := ∃ (xa1 : Addr) (xk1 : ClassId), v = some (.ref xa1) ∧ av0 Z h xa1 xk1 1 [.int (b1.toInt8.toInt32)] ∧ ex0 Z h xa1 ∧ Safe Z EL0 vm h xa1 ∧ h0.size ≤ xa1 ∧ h.size > xa1
theorem rm_au1 (G : GL l Z a0 zc dce kdce eed keed mroa mral mrul mrur) (rg_pi1 : ¬ pi1 < 0 ∧ ¬ (255 : Int32) < pi1) : M3 l Z 0 1 1 0 #[.int pi1] h0 n0 [] [] (Q1 Z pi1 h0) := by
  refine mi B3 ef1 (hEW G) fun s X0 hsf0 n0le => ?_
  refine oc 1 (v := 1) X0 d3_0 rfl (by decide) <| nP (aty := .byte) 3 1 X0 (w14 G) d3_1 rfl (by decide) had_byte ?_
  intro _ h1 b1 k1 X1 _ _ _ V1 A1 _ S1
  have V2 : av0 Z h1 b1 k1 1 [i0] := V1.pad (pad_rep [] (.int (0 : Int32)) 1)
  refine oD 4 X1 d3_3 rfl rfl <| oc 5 (v := 0) X1 d3_4 rfl (by decide) <| oI 6 X1 d3_5 rfl rfl <| o_i2b 7 (v := (pi1.toInt8.toInt32)) X1 d3_6 rfl rfl <| sB 8 0 (pi1.toInt8.toInt32) X1 V2 (by decide) (lb rfl) (own_narB _) d3_7 rfl (by omega) (Or.inr (by omega)) S1 ?_
  rintro _ _ X3 ⟨_, _, W3⟩ C3 V3
  have := W3.size
  have V4 := V3.as [.int (pi1.toInt8.toInt32)] rfl
  have f5 := A1.wr W3
  have f6 := C3.safe (own_lt (by omega)) S1
  exact oR X3 d3_8 rfl rfl rfl (by decide) (by decide) (fun _ CC => ⟨b1, k1, rfl, V4, f5, (CC.safe (own_lt (by omega)) f6), by omega⟩)
def Q2 (Z : State) (b1 b2 : Addr) (h0 : Heap) (v : Option Value) (h : Heap) (vm : Vm) : Prop := v = none ∧ ex1 Z h b1 ∧ fd1 Z h b1 (.int 0) ∧ fd0 Z h b1 (.ref b2)
theorem rm_au2 (G : GL l Z a0 zc dce kdce eed keed mroa mral mrul mrur) (F0 : ex1 Z h0 pa1) (F1 : fd1 Z h0 pa1 (.int 0)) (F2 : fd0 Z h0 pa1 .null) (ne : n0 ≤ pa1) : M4 l Z 1 0 0 12 #[.ref pa1, .ref pa2, i0] h0 n0 [pa1] [pa1] (Q2 Z pa1 pa2 h0) := by
  refine mi B4 ef2 (hEW G) fun s X0 hsf0 n0le => ?_
  have := F0.l
  have sf_pa1 := hsf0 pa1 (by simp)
  refine oA 1 X0 d4_0 rfl rfl <| o_initO 4 (W := 0) X0 (w19 G) (w20 G) (w21 G) rfl (by decide) (Nat.le_of_eq rfl) (by decide) d4_1 rfl ?_
  intro _ X2
  refine oA 5 X2 d4_4 rfl rfl <| oA 6 X2 d4_5 rfl rfl <| oP 9 (v' := (.ref pa2)) X2 (w22 G) Via.refl F2 F0 (Or.inr ⟨(w23 G), rfl, rfl⟩) (w10 G) fd_0 rfl rfl d4_6 rfl (by omega) (Or.inl (by simp)) sf_pa1 ?_
  intro _ _ X3 W3 C3
  have := W3.size
  have f4 := F2.same W3
  refine oA 10 X3 d4_9 rfl rfl <| oI 11 X3 d4_10 rfl rfl ?_
  have f5 := F1.other W3 (Or.inr (sn0 G))
  have f6 := F0.wr W3
  have f8 := C3.safe (own_lt (by omega)) sf_pa1
  refine oP 14 (v' := (.int 0)) X3 (w24 G) Via.refl f5 f6 (Or.inr ⟨(w25 G), rfl, rfl⟩) (w10 G) fd_1 rfl rfl d4_11 rfl (by omega) (Or.inl (by simp)) f8 ?_
  intro _ _ X7 W7 _
  have := W7.size
  have f9 := f5.same W7
  have f10 := f6.wr W7
  have f11 := f4.other W7 (Or.inr (sn1 G))
  exact oz X7 d4_14 rfl (by decide) (by decide) (fun _ CC => ⟨rfl, f10, f9, f11⟩)
def Q3 (Z : State) (b1 : Int32) (h0 : Heap) (v : Option Value) (h : Heap) (vm : Vm) : Prop := ∃ (xa1 : Addr) (xa2 : Addr) (xk1 : ClassId), v = some (.ref xa1) ∧ ex1 Z h xa1 ∧ fd1 Z h xa1 (.int 0) ∧ fd0 Z h xa1 (.ref xa2) ∧ Safe Z EL0 vm h xa1 ∧ av0 Z h xa2 xk1 1 [.int (b1.toInt8.toInt32)] ∧ ex0 Z h xa2 ∧ Safe Z EL0 vm h xa2 ∧ h0.size ≤ xa1 ∧ h.size > xa1 ∧ h0.size ≤ xa2 ∧ h.size > xa2 ∧ NE xa1 xa2
theorem rm_au3 (G : GL l Z a0 zc dce kdce eed keed mroa mral mrul mrur) (rg_pi1 : ¬ pi1 < 0 ∧ ¬ (255 : Int32) < pi1) : M1 l Z 2 2 5 27 #[.int pi1] h0 n0 [] [] (Q3 Z pi1 h0) := by
  refine mi B1 ef1 (hEW G) fun s X0 hsf0 n0le => ?_
  refine oG 3 X0 (w4 G) Via.refl ((sg10 G).ext X0.old.2) d1_0 rfl ?_
  intro _ X2
  refine on 6 X2 d1_3 rfl ((if0 _ _).trans (feq (hzc G)).1) <| oI 7 X2 d1_6 rfl rfl <| mS 10 0 X2 (rm_au0 G rg_pi1) (u0 G) all0 d1_7 rfl rfl rfl lr (by decide) all0 ?_
  rintro _ _ _ _ X3 rfl _ _ _
  refine sk [.int 1] rfl <| on 13 X3 d1_10 rfl ((if0 _ _).trans (feq (by decide)).1) <| o_new 16 X3 (w9 G) (w10 G) (w2 G) d1_13 rfl (by decide) (by decide) ?_
  intro _ h4 b4 X4 _ _ _ A4 D4 _ _ S4
  have f5 : fd0 Z h4 b4 .null := D4 (Or.inr (w23 G)) fd_0
  have f6 : fd1 Z h4 b4 (.int 0) := D4 (Or.inr (w25 G)) fd_1
  refine oD 17 X4 d1_16 rfl rfl <| oI 18 X4 d1_17 rfl rfl <| mS 21 2 X4 (rm_au1 G rg_pi1) (u1 G) all0 d1_18 rfl rfl rfl lr (by decide) all0 ?_
  rintro _ _ _ _ X7 ⟨xa1_8, xk1_9, rfl, q10, q11, q12, _⟩ K7 _ C7
  refine sk [.ref xa1_8, .ref b4, .ref b4] rfl <| oc 22 (v := 0) X7 d1_21 rfl (by decide) ?_
  have f14 := A4.keep K7
  have f15 := f6.k0 K7
  have f16 := f5.k0 K7
  have f17 := C7.safe (own_lt (by omega)) S4
  refine mP 25 1 X7 (rm_au2 G f14 f15 f16 (by omega)) (u2 G) (sS (by omega) f17 all0) d1_22 rfl rfl rfl lr (by decide) (aR (by omega) all0) ?_
  rintro _ _ _ _ X18 ⟨rfl, q19, q20, q21⟩ K18 _ C18
  refine sk [.ref b4] rfl ?_
  have f22 := C18.safe (own_lt (by omega)) f17
  have f23 := q10.k1 K18 (by omega)
  have f24 := q11.keep K18
  have f25 := C18.safe (own_lt (by omega)) q12
  exact oR X18 d1_25 rfl rfl rfl (by decide) (by decide) (fun _ CC => ⟨b4, xa1_8, xk1_9, rfl, q19, q20, q21, (CC.safe (own_lt (by omega)) f22), f23, f24, (CC.safe (own_lt (by omega)) f25), by omega⟩)
def Q4 (Z : State) (b1 : Addr) (b2 : ClassId) (b3 : Int32) (h0 : Heap) (v : Option Value) (h : Heap) (vm : Vm) : Prop := v = some (.int 4) ∧ av0 Z h b1 b2 4 [.int (b3.toInt8.toInt32), .int 32, .int 91, .int 93] ∧ ex0 Z h b1
theorem rm_au4 (G : GL l Z a0 zc dce kdce eed keed mroa mral mrul mrur) (F0 : av1 Z h0 pa1 pk1 4 [.int pi1, .int 32, .int 91, .int 93]) (F1 : av0 Z h0 pa2 pk2 4 [i0, i0, i0, i0]) (F2 : ex0 Z h0 pa2) (rg_pi1 : ¬ pi1 < 0 ∧ ¬ (255 : Int32) < pi1) (ne : NE pa1 pa2 ∧ n0 ≤ pa2) : M9 l Z 0 0 0 0 #[.ref pa1, i0, .ref pa2, i0, .int 4] h0 n0 [pa2] [pa2] (Q4 Z pa2 pk2 pi1 h0) := by
  refine mi B9 ef7 (hEW G) fun s X0 hsf0 n0le => ?_
  have := F0.l
  have := F1.l
  have sf_pa2 := hsf0 pa2 (by simp)
  refine oc 1 (v := 0) X0 d9_0 rfl (by decide) <| oS 3 (l' := #[rr pa1, ii 0, rr pa2, ii 0, ii 4, ii 0, uu]) X0 d9_1 rfl rfl <| oi 5 X0 d9_3 rfl rfl <| oi 7 X0 d9_5 rfl rfl <| oN 10 X0 d9_7 rfl (tlt (by decide)).2.1 <| oA 11 X0 d9_10 rfl rfl <| oI 12 X0 d9_11 rfl rfl <| oC 13 (v := (.int pi1)) X0 F0 ⟨by decide, by decide⟩ rfl d9_12 rfl <| oS 15 (l' := #[rr pa1, ii 0, rr pa2, ii 0, ii 4, ii 0, ii pi1]) X0 d9_13 rfl rfl <| oi 17 X0 d9_15 rfl rfl <| o_sipush 20 (v := 255) X0 d9_17 rfl (by decide) <| oY 26 X0 d9_20 (by decide) (flt rg_pi1.2).2.2.2 ?_
  refine oA 27 X0 d9_26 rfl rfl <| oI 28 X0 d9_27 rfl rfl <| oi 30 X0 d9_28 rfl rfl <| o_i2b 31 (v := (pi1.toInt8.toInt32)) X0 d9_30 rfl rfl <| sB 32 0 (pi1.toInt8.toInt32) X0 F1 (by decide) (lb rfl) (own_narB _) d9_31 rfl (by omega) (Or.inl (by simp)) sf_pa2 ?_
  rintro _ _ X1 ⟨_, _, W1⟩ C1 V1
  have := W1.size
  have V2 := V1.as [.int (pi1.toInt8.toInt32), i0, i0, i0] rfl
  refine oJ 35 1 #[rr pa1, ii 1, rr pa2, ii 0, ii 4, ii 0, ii pi1] X1 d9_32 rfl rfl (by decide) rfl <| oJ 38 1 #[rr pa1, ii 1, rr pa2, ii 1, ii 4, ii 0, ii pi1] X1 d9_35 rfl rfl (by decide) rfl <| oJ 41 1 #[rr pa1, ii 1, rr pa2, ii 1, ii 4, ii 1, ii pi1] X1 d9_38 rfl rfl (by decide) rfl <| og 3 X1 d9_41 (by decide) <| oi 5 X1 d9_3 rfl rfl <| oi 7 X1 d9_5 rfl rfl <| oN 10 X1 d9_7 rfl (tlt (by decide)).2.1 <| oA 11 X1 d9_10 rfl rfl <| oI 12 X1 d9_11 rfl rfl ?_
  have f3 := F0.oth W1 (by omega)
  refine oC 13 (v := (.int 32)) X1 f3 ⟨by decide, by decide⟩ rfl d9_12 rfl <| oS 15 (l' := #[rr pa1, ii 1, rr pa2, ii 1, ii 4, ii 1, ii 32]) X1 d9_13 rfl rfl <| oi 17 X1 d9_15 rfl rfl <| o_sipush 20 (v := 255) X1 d9_17 rfl (by decide) <| oY 26 X1 d9_20 (by decide) (flt (by decide)).2.2.2 <| oA 27 X1 d9_26 rfl rfl <| oI 28 X1 d9_27 rfl rfl <| oi 30 X1 d9_28 rfl rfl <| o_i2b 31 (v := 32) X1 d9_30 rfl (by decide) ?_
  have f5 := C1.safe (own_lt (by omega)) sf_pa2
  refine sB 32 1 32 X1 V2 (by decide) (lb rfl) (by decide) d9_31 rfl (by omega) (Or.inl (by simp)) f5 ?_
  rintro _ _ X4 ⟨_, _, W4⟩ C4 V4
  have := W4.size
  have V6 := V4.as [.int (pi1.toInt8.toInt32), .int 32, i0, i0] rfl
  refine oJ 35 2 #[rr pa1, ii 2, rr pa2, ii 1, ii 4, ii 1, ii 32] X4 d9_32 rfl rfl (by decide) rfl <| oJ 38 2 #[rr pa1, ii 2, rr pa2, ii 2, ii 4, ii 1, ii 32] X4 d9_35 rfl rfl (by decide) rfl <| oJ 41 2 #[rr pa1, ii 2, rr pa2, ii 2, ii 4, ii 2, ii 32] X4 d9_38 rfl rfl (by decide) rfl <| og 3 X4 d9_41 (by decide) <| oi 5 X4 d9_3 rfl rfl <| oi 7 X4 d9_5 rfl rfl <| oN 10 X4 d9_7 rfl (tlt (by decide)).2.1 <| oA 11 X4 d9_10 rfl rfl <| oI 12 X4 d9_11 rfl rfl ?_
  have f7 := f3.oth W4 (by omega)
  refine oC 13 (v := (.int 91)) X4 f7 ⟨by decide, by decide⟩ rfl d9_12 rfl <| oS 15 (l' := #[rr pa1, ii 2, rr pa2, ii 2, ii 4, ii 2, ii 91]) X4 d9_13 rfl rfl <| oi 17 X4 d9_15 rfl rfl <| o_sipush 20 (v := 255) X4 d9_17 rfl (by decide) <| oY 26 X4 d9_20 (by decide) (flt (by decide)).2.2.2 <| oA 27 X4 d9_26 rfl rfl <| oI 28 X4 d9_27 rfl rfl <| oi 30 X4 d9_28 rfl rfl <| o_i2b 31 (v := 91) X4 d9_30 rfl (by decide) ?_
  have f9 := C4.safe (own_lt (by omega)) f5
  refine sB 32 2 91 X4 V6 (by decide) (lb rfl) (by decide) d9_31 rfl (by omega) (Or.inl (by simp)) f9 ?_
  rintro _ _ X8 ⟨_, _, W8⟩ C8 V8
  have := W8.size
  have V10 := V8.as [.int (pi1.toInt8.toInt32), .int 32, .int 91, i0] rfl
  refine oJ 35 3 #[rr pa1, ii 3, rr pa2, ii 2, ii 4, ii 2, ii 91] X8 d9_32 rfl rfl (by decide) rfl <| oJ 38 3 #[rr pa1, ii 3, rr pa2, ii 3, ii 4, ii 2, ii 91] X8 d9_35 rfl rfl (by decide) rfl <| oJ 41 3 #[rr pa1, ii 3, rr pa2, ii 3, ii 4, ii 3, ii 91] X8 d9_38 rfl rfl (by decide) rfl <| og 3 X8 d9_41 (by decide) <| oi 5 X8 d9_3 rfl rfl <| oi 7 X8 d9_5 rfl rfl <| oN 10 X8 d9_7 rfl (tlt (by decide)).2.1 <| oA 11 X8 d9_10 rfl rfl <| oI 12 X8 d9_11 rfl rfl ?_
  have f11 := f7.oth W8 (by omega)
  refine oC 13 (v := (.int 93)) X8 f11 ⟨by decide, by decide⟩ rfl d9_12 rfl <| oS 15 (l' := #[rr pa1, ii 3, rr pa2, ii 3, ii 4, ii 3, ii 93]) X8 d9_13 rfl rfl <| oi 17 X8 d9_15 rfl rfl <| o_sipush 20 (v := 255) X8 d9_17 rfl (by decide) <| oY 26 X8 d9_20 (by decide) (flt (by decide)).2.2.2 <| oA 27 X8 d9_26 rfl rfl <| oI 28 X8 d9_27 rfl rfl <| oi 30 X8 d9_28 rfl rfl <| o_i2b 31 (v := 93) X8 d9_30 rfl (by decide) ?_
  have f13 := C8.safe (own_lt (by omega)) f9
  refine sB 32 3 93 X8 V10 (by decide) (lb rfl) (by decide) d9_31 rfl (by omega) (Or.inl (by simp)) f13 ?_
  rintro _ _ X12 ⟨_, _, W12⟩ _ V12
  have := W12.size
  have V14 := V12.as [.int (pi1.toInt8.toInt32), .int 32, .int 91, .int 93] rfl
  refine oJ 35 4 #[rr pa1, ii 4, rr pa2, ii 3, ii 4, ii 3, ii 93] X12 d9_32 rfl rfl (by decide) rfl <| oJ 38 4 #[rr pa1, ii 4, rr pa2, ii 4, ii 4, ii 3, ii 93] X12 d9_35 rfl rfl (by decide) rfl <| oJ 41 4 #[rr pa1, ii 4, rr pa2, ii 4, ii 4, ii 4, ii 93] X12 d9_38 rfl rfl (by decide) rfl <| og 3 X12 d9_41 (by decide) <| oi 5 X12 d9_3 rfl rfl <| oi 7 X12 d9_5 rfl rfl <| oY 44 X12 d9_7 (by decide) (flt (by decide)).2.1 <| oi 46 X12 d9_44 rfl rfl ?_
  have f15 := (((F2.wr W1).wr W4).wr W8).wr W12
  exact o_iret X12 d9_46 rfl (by decide) (by decide) (fun _ CC => ⟨rfl, V14, f15⟩)
def Q5 (Z : State) (b1 : Int32) (h0 : Heap) (v : Option Value) (h : Heap) (vm : Vm) : Prop := ∃ (xa1 : Addr) (xk1 : ClassId), v = some (.ref xa1) ∧ av0 Z h xa1 xk1 4 [.int (b1.toInt8.toInt32), .int 32, .int 91, .int 93] ∧ ex0 Z h xa1 ∧ Safe Z EL0 vm h xa1 ∧ h0.size ≤ xa1 ∧ h.size > xa1
theorem rm_au5 (G : GL l Z a0 zc dce kdce eed keed mroa mral mrul mrur) (F0 : av1 Z h0 pa1 pk1 4 [.int pi1, .int 32, .int 91, .int 93]) (rg_pi1 : ¬ pi1 < 0 ∧ ¬ (255 : Int32) < pi1) : M8 l Z 1 1 4 18 #[.ref pa1, i0, .int 4] h0 n0 [] [] (Q5 Z pi1 h0) := by
  refine mi B8 ef6 (hEW G) fun s X0 hsf0 n0le => ?_
  have l1 := F0.l
  refine oI 1 X0 d8_0 rfl rfl <| nP (aty := .byte) 3 4 X0 (w14 G) d8_1 rfl (by decide) had_byte ?_
  intro _ h1 b1 k1 X1 _ l1 E1 V1 A1 _ S1
  have V2 : av0 Z h1 b1 k1 4 [i0, i0, i0, i0] := V1.pad (pad_rep [] (.int (0 : Int32)) 4)
  refine oV 4 (l' := #[rr pa1, ii 0, ii 4, rr b1, uu, uu]) X1 d8_3 rfl rfl rfl <| oA 5 X1 d8_4 rfl rfl <| oI 6 X1 d8_5 rfl rfl <| oA 7 X1 d8_6 rfl rfl <| oc 8 (v := 0) X1 d8_7 rfl (by decide) <| oI 9 X1 d8_8 rfl rfl ?_
  have f3 := F0.ext E1
  refine mS 12 0 X1 (rm_au4 G f3 V2 A1 rg_pi1 (by omega)) (u4 G) (sS (by omega) S1 all0) d8_9 rfl rfl rfl lr (by decide) (aR (by omega) all0) ?_
  rintro _ _ _ _ X4 ⟨rfl, q5, q6⟩ _ _ C4
  refine sk [.int 4] rfl <| oS 14 (l' := #[rr pa1, ii 0, ii 4, rr b1, ii 4, uu]) X4 d8_12 rfl rfl <| oi 16 X4 d8_14 rfl rfl <| oI 17 X4 d8_16 rfl rfl <| oY 57 X4 d8_17 (by decide) (teq (by decide)).1 <| oA 58 X4 d8_57 rfl rfl ?_
  have f7 := C4.safe (own_lt (by omega)) S1
  exact oR X4 d8_58 rfl rfl rfl (by decide) (by decide) (fun _ CC => ⟨b1, k1, rfl, q5, q6, (CC.safe (own_lt (by omega)) f7), by omega⟩)
def Q6 (Z : State) (h0 : Heap) (v : Option Value) (h : Heap) (vm : Vm) : Prop := v = some (.int 0)
theorem rm_au6 (G : GL l Z a0 zc dce kdce eed keed mroa mral mrul mrur) (F0 : av0 Z h0 pa1 pk1 4 ps_pa1) : M10 l Z 0 0 0 0 #[.ref pa1, .int 4] h0 n0 [] [] (Q6 Z  h0) := by
  refine mi B10 ef8 (hEW G) fun s X0 hsf0 n0le => ?_
  have := F0.l
  refine oI 1 X0 d10_0 rfl rfl <| oA 2 X0 d10_1 rfl rfl <| oL 3 X0 F0 d10_2 rfl <| o_isub 4 (v := 0) X0 d10_3 rfl (by decide) <| ob 6 (v := 31) X0 d10_4 rfl (by decide) <| o_iushr 7 (v := 0) X0 d10_6 rfl (by decide) <| o_i2b 8 (v := 0) X0 d10_7 rfl (by decide) ?_
  exact o_nret (y := (0 : Int32)) (t := .byte) X0 d10_8 rfl (by decide) (by simp) (by decide) (by decide) (fun _ CC => rfl)
def Q7 (Z : State) (b1 : Addr) (b2 : Int32) (h0 : Heap) (v : Option Value) (h : Heap) (vm : Vm) : Prop := ∃ (xa1 : Addr) (xk1 : ClassId), v = none ∧ ex1 Z h b1 ∧ fd1 Z h b1 (.int 0) ∧ fd0 Z h b1 (.ref xa1) ∧ av0 Z h xa1 xk1 4 [.int (b2.toInt8.toInt32), .int 32, .int 91, .int 93] ∧ ex0 Z h xa1 ∧ Safe Z EL0 vm h xa1 ∧ h0.size ≤ xa1 ∧ h.size > xa1
theorem rm_au7 (G : GL l Z a0 zc dce kdce eed keed mroa mral mrul mrur) (F0 : ex1 Z h0 pa1) (F1 : fd1 Z h0 pa1 (.int 0)) (F2 : fd0 Z h0 pa1 .null) (F3 : av1 Z h0 pa2 pk1 4 [.int pi1, .int 32, .int 91, .int 93]) (rg_pi1 : ¬ pi1 < 0 ∧ ¬ (255 : Int32) < pi1) (ne : NE pa1 pa2 ∧ n0 ≤ pa1) : M7 l Z 2 1 4 35 #[.ref pa1, .ref pa2, i0, .int 4, .null] h0 n0 [pa1] [pa1] (Q7 Z pa1 pi1 h0) := by
  refine mi B7 ef5 (hEW G) fun s X0 hsf0 n0le => ?_
  have := F0.l
  have := F3.l
  have sf_pa1 := hsf0 pa1 (by simp)
  refine oA 1 X0 d7_0 rfl rfl <| o_initO 4 (W := 0) X0 (w19 G) (w20 G) (w21 G) rfl (by decide) (Nat.le_of_eq rfl) (by decide) d7_1 rfl ?_
  intro _ X2
  refine oI 5 X2 d7_4 rfl rfl <| oy 27 X2 d7_5 (by decide) ((if0 _ _).trans (feq (by decide)).2) <| oG 30 X2 (w4 G) Via.refl ((sg10 G).ext X2.old.2) d7_27 rfl ?_
  intro _ X4
  refine on 33 X4 d7_30 rfl ((if0 _ _).trans (feq (hzc G)).1) <| oA 34 X4 d7_33 rfl rfl <| oI 35 X4 d7_34 rfl rfl <| oI 36 X4 d7_35 rfl rfl <| mS 39 0 X4 (rm_au5 G F3 rg_pi1) (u5 G) all0 d7_36 rfl rfl rfl lr (by decide) all0 ?_
  rintro _ _ _ _ X5 ⟨xa1_6, xk1_7, rfl, q8, q9, q10, _⟩ K5 _ C5
  refine sk [.ref xa1_6] rfl <| oU 41 (l' := #[rr pa1, rr pa2, ii 0, ii 4, .val .null, rr xa1_6]) X5 d7_39 rfl rfl rfl <| oA 42 X5 d7_41 rfl rfl <| oa 44 X5 d7_42 rfl rfl <| oI 45 X5 d7_44 rfl rfl <| mS 48 1 X5 (rm_au6 G q8) (u6 G) all0 d7_45 rfl rfl rfl lr (by decide) all0 ?_
  rintro _ _ _ _ X12 rfl K12 _ C12
  refine sk [i0, .ref pa1] rfl ?_
  have f13 := (F1.k0 K5).k0 K12
  have f14 := (F0.keep K5).keep K12
  have f16 := C12.safe (own_lt (by omega)) (C5.safe (own_lt (by omega)) sf_pa1)
  refine oP 51 (v' := (.int 0)) X12 (w24 G) Via.refl f13 f14 (Or.inr ⟨(w25 G), rfl, rfl⟩) (w10 G) fd_1 rfl rfl d7_48 rfl (by omega) (Or.inl (by simp)) f16 ?_
  intro _ _ X15 W15 C15
  have := W15.size
  have f17 := f13.same W15
  refine oA 52 X15 d7_51 rfl rfl <| oa 54 X15 d7_52 rfl rfl ?_
  have f18 := ((F2.k0 K5).k0 K12).other W15 (Or.inr (sn1 G))
  have f19 := f14.wr W15
  have f21 := C15.safe (own_lt (by omega)) f16
  refine oP 57 (v' := (.ref xa1_6)) X15 (w22 G) Via.refl f18 f19 (Or.inr ⟨(w23 G), rfl, rfl⟩) (w10 G) fd_0 rfl rfl d7_54 rfl (by omega) (Or.inl (by simp)) f21 ?_
  intro _ _ X20 W20 C20
  have := W20.size
  have f22 := f18.same W20
  have f23 := f19.wr W20
  have f24 := f17.other W20 (Or.inr (sn0 G))
  have f25 := ((q8.k0 K12).oth W15 (by omega)).oth W20 (by omega)
  have f26 := ((q9.keep K12).wr W15).wr W20
  have f27 := C20.safe (own_lt (by omega)) (C15.safe (own_lt (by omega)) (C12.safe (own_lt (by omega)) q10))
  exact oz X20 d7_57 rfl (by decide) (by decide) (fun _ CC => ⟨xa1_6, xk1_7, rfl, f23, f24, f22, f25, f26, (CC.safe (own_lt (by omega)) f27), by omega⟩)
theorem rm_au8 (G : GL l Z a0 zc dce kdce eed keed mroa mral mrul mrur) (F0 : ex1 Z h0 pa1) (F1 : fd1 Z h0 pa1 (.int 0)) (F2 : fd0 Z h0 pa1 .null) (F3 : av1 Z h0 pa2 pk1 4 [.int pi1, .int 32, .int 91, .int 93]) (rg_pi1 : ¬ pi1 < 0 ∧ ¬ (255 : Int32) < pi1) (ne : NE pa1 pa2 ∧ n0 ≤ pa1) : M6 l Z 3 1 4 52 #[.ref pa1, .ref pa2] h0 n0 [pa1] [pa1] (Q7 Z pa1 pi1 h0) := by
  refine mi B6 ef4 (hEW G) fun s X0 hsf0 n0le => ?_
  have := F0.l
  have := F3.l
  have sf_pa1 := hsf0 pa1 (by simp)
  refine oA 1 X0 d6_0 rfl rfl <| oA 2 X0 d6_1 rfl rfl <| oc 3 (v := 0) X0 d6_2 rfl (by decide) <| oA 4 X0 d6_3 rfl rfl <| oL 5 X0 F3 d6_4 rfl <| o_aconstNull 6 X0 d6_5 rfl <| mP 9 0 X0 (rm_au7 G F0 F1 F2 F3 rg_pi1 (by omega)) (u7 G) (sS (by omega) sf_pa1 all0) d6_6 rfl rfl rfl lr (by decide) (aI (by omega) (by simp) all0) ?_
  rintro _ _ _ _ X1 ⟨xa1_2, xk1_3, rfl, q4, q5, q6, q7, q8, q9, _⟩ _ _ _
  refine sk [] rfl ?_
  exact oz X1 d6_9 rfl (by decide) (by decide) (fun _ CC => ⟨xa1_2, xk1_3, rfl, q4, q5, q6, q7, q8, (CC.safe (own_lt (by omega)) q9), by omega⟩)
def Q8 (Z : State) (b1 : Int32) (h0 : Heap) (v : Option Value) (h : Heap) (vm : Vm) : Prop := ∃ (xa1 : Addr) (xa2 : Addr) (xk1 : ClassId), v = some (.ref xa1) ∧ ex1 Z h xa1 ∧ fd1 Z h xa1 (.int 0) ∧ fd0 Z h xa1 (.ref xa2) ∧ Safe Z EL0 vm h xa1 ∧ av0 Z h xa2 xk1 4 [.int (b1.toInt8.toInt32), .int 32, .int 91, .int 93] ∧ ex0 Z h xa2 ∧ Safe Z EL0 vm h xa2 ∧ h0.size ≤ xa1 ∧ h.size > xa1 ∧ h0.size ≤ xa2 ∧ h.size > xa2 ∧ NE xa1 xa2
theorem rm_au9 (G : GL l Z a0 zc dce kdce eed keed mroa mral mrul mrur) (rg_pi1 : ¬ pi1 < 0 ∧ ¬ (255 : Int32) < pi1) (rg_pi2 : ¬ pi2 < 0 ∧ ¬ (255 : Int32) < pi2) (rg_pi3 : ¬ pi3 < 0 ∧ ¬ (255 : Int32) < pi3) (rg_pi4 : ¬ pi4 < 0 ∧ ¬ (255 : Int32) < pi4) (pc_0 : pi100 = (0 : Int32)) : M5 l Z 4 3 12 66 #[.int pi100, .int pi1, .int pi2, .int pi3, .int pi4] h0 n0 [] [] (Q8 Z pi1 h0) := by
  refine mi B5 ef3 (hEW G) fun s X0 hsf0 n0le => ?_
  refine oI 1 X0 d5_0 rfl rfl <| on 4 X0 d5_1 rfl ((if0 _ _).trans (teq pc_0).2) <| o_new 7 X0 (w30 G) (w10 G) (w2 G) d5_4 rfl (by decide) (by decide) ?_
  intro _ h1 b1 X1 _ _ _ A1 D1 _ _ S1
  have f2 : fd0 Z h1 b1 .null := D1 (Or.inr (w23 G)) fd_0
  have f3 : fd1 Z h1 b1 (.int 0) := D1 (Or.inr (w25 G)) fd_1
  refine oD 8 X1 d5_7 rfl rfl <| oc 9 (v := 4) X1 d5_8 rfl (by decide) <| nP (aty := .char) 11 4 X1 (w31 G) d5_9 rfl (by decide) had_char ?_
  intro _ h4 b4 k4 X4 _ _ E4 V4 A4 C4 _
  have V5 : av1 Z h4 b4 k4 4 [i0, i0, i0, i0] := V4.pad (pad_rep [] (.int (0 : Int32)) 4)
  refine oD 12 X4 d5_11 rfl rfl <| oc 13 (v := 0) X4 d5_12 rfl (by decide) <| oI 14 X4 d5_13 rfl rfl <| sC 15 0 pi1 X4 V5 (by decide) (lb rfl) (own_narC rg_pi1) d5_14 rfl (by omega) (Or.inr (by omega)) (sx X4 A4 nc0) ?_
  rintro _ _ X6 ⟨_, _, W6⟩ C6 V6
  have := W6.size
  have V7 := V6.as [.int pi1, i0, i0, i0] rfl
  refine oD 16 X6 d5_15 rfl rfl <| oc 17 (v := 1) X6 d5_16 rfl (by decide) <| ob 19 (v := 32) X6 d5_17 rfl (by decide) ?_
  have f9 := A4.wr W6
  refine sC 20 1 32 X6 V7 (by decide) (lb rfl) (by decide) d5_19 rfl (by omega) (Or.inr (by omega)) (sx X6 f9 nc0) ?_
  rintro _ _ X8 ⟨_, _, W8⟩ C8 V8
  have := W8.size
  have V10 := V8.as [.int pi1, .int 32, i0, i0] rfl
  refine oD 21 X8 d5_20 rfl rfl <| oc 22 (v := 2) X8 d5_21 rfl (by decide) <| ob 24 (v := 91) X8 d5_22 rfl (by decide) ?_
  have f12 := f9.wr W8
  refine sC 25 2 91 X8 V10 (by decide) (lb rfl) (by decide) d5_24 rfl (by omega) (Or.inr (by omega)) (sx X8 f12 nc0) ?_
  rintro _ _ X11 ⟨_, _, W11⟩ C11 V11
  have := W11.size
  have V13 := V11.as [.int pi1, .int 32, .int 91, i0] rfl
  refine oD 26 X11 d5_25 rfl rfl <| oc 27 (v := 3) X11 d5_26 rfl (by decide) <| ob 29 (v := 93) X11 d5_27 rfl (by decide) ?_
  have f15 := f12.wr W11
  refine sC 30 3 93 X11 V13 (by decide) (lb rfl) (by decide) d5_29 rfl (by omega) (Or.inr (by omega)) (sx X11 f15 nc0) ?_
  rintro _ _ X14 ⟨_, _, W14⟩ C14 V14
  have := W14.size
  have V16 := V14.as [.int pi1, .int 32, .int 91, .int 93] rfl
  have f17 := ((((A1.ext E4).wr W6).wr W8).wr W11).wr W14
  have f18 := ((((f3.ext E4).oth W6 (by omega)).oth W8 (by omega)).oth W11 (by omega)).oth W14 (by omega)
  have f19 := ((((f2.ext E4).oth W6 (by omega)).oth W8 (by omega)).oth W11 (by omega)).oth W14 (by omega)
  have f20 := C14.safe (own_lt (by omega)) (C11.safe (own_lt (by omega)) (C8.safe (own_lt (by omega)) (C6.safe (own_lt (by omega)) (C4.safe (own_lt (by omega)) S1))))
  refine mP 33 1 X14 (rm_au8 G f17 f18 f19 V16 rg_pi1 (by omega)) (u8 G) (sS (by omega) f20 all0) d5_30 rfl rfl rfl lr (by decide) (aR (by omega) all0) ?_
  rintro _ _ _ _ X21 ⟨xa1_22, xk1_23, rfl, q24, q25, q26, q27, q28, q29, _⟩ _ _ C21
  refine sk [.ref b1] rfl ?_
  have f31 := C21.safe (own_lt (by omega)) f20
  exact oR X21 d5_33 rfl rfl rfl (by decide) (by decide) (fun _ CC => ⟨b1, xa1_22, xk1_23, rfl, q24, q25, q26, (CC.safe (own_lt (by omega)) f31), q27, q28, (CC.safe (own_lt (by omega)) q29), by omega⟩)
def Q9 (Z : State) (h0 : Heap) (v : Option Value) (h : Heap) (vm : Vm) : Prop := v = none
theorem rm_au10 (G : GL l Z a0 zc dce kdce eed keed mroa mral mrul mrur)  : M13 l Z 1 0 0 12 #[.ref pa1] h0 n0 [] [] (Q9 Z  h0) := by
  refine mi B13 ef9 (hEW G) fun s X0 hsf0 n0le => ?_
  refine oA 1 X0 d13_0 rfl rfl <| o_initO 4 (W := 0) X0 (w66 G) (w20 G) (w21 G) rfl (by decide) (Nat.le_of_eq rfl) (by decide) d13_1 rfl ?_
  intro _ X2
  exact oz X2 d13_4 rfl (by decide) (by decide) (fun _ CC => rfl)
def Q10 (Z : State) (b1 : Addr) (b2 : Int32) (h0 : Heap) (v : Option Value) (h : Heap) (vm : Vm) : Prop := v = none ∧ ex2 Z h b1 ∧ fd3 Z h b1 .null ∧ fd2 Z h b1 (.int 0) ∧ fd4 Z h b1 (.int b2)
theorem rm_au11 (G : GL l Z a0 zc dce kdce eed keed mroa mral mrul mrur) (F0 : ex2 Z h0 pa1) (F1 : fd3 Z h0 pa1 .null) (F2 : fd2 Z h0 pa1 (.int pi1)) (F3 : fd4 Z h0 pa1 (.int pi2)) (ne : n0 ≤ pa1) : M12 l Z 2 0 0 24 #[.ref pa1] h0 n0 [pa1] [] (Q10 Z pa1 pi2 h0) := by
  refine mi B12 ef9 (hEW G) fun s X0 hsf0 n0le => ?_
  have := F0.l
  refine oA 1 X0 d12_0 rfl rfl <| mP 4 0 X0 (rm_au10 G ) (u10 G) all0 d12_1 rfl rfl rfl lr (by decide) all0 ?_
  rintro _ _ _ _ X1 rfl K1 _ _
  refine sk [] rfl <| oA 5 X1 d12_4 rfl rfl <| oc 6 (v := 0) X1 d12_5 rfl (by decide) ?_
  have f2 := F2.k0 K1
  have f3 := F0.keep K1
  refine oP 9 (v' := (.int 0)) X1 (w67 G) Via.refl f2 f3 (Or.inl (w68 G)) (w49 G) fd_2 rfl rfl d12_6 rfl (by omega) (Or.inl (by simp)) (sx X1 f3 nc1) ?_
  intro _ _ X4 W4 _
  have := W4.size
  have f5 := f2.same W4
  have f6 := f3.wr W4
  have f7 := (F1.k0 K1).other W4 (Or.inr (sn2 G))
  have f8 := (F3.k0 K1).other W4 (Or.inr (sn3 G))
  exact oz X4 d12_9 rfl (by decide) (by decide) (fun _ CC => ⟨rfl, f6, f7, f5, f8⟩)
def Q11 (Z : State) (b1 b2 : Addr) (b3 : Int32) (h0 : Heap) (v : Option Value) (h : Heap) (vm : Vm) : Prop := v = none ∧ ex2 Z h b1 ∧ fd3 Z h b1 (.ref b2) ∧ fd2 Z h b1 (.int 0) ∧ fd4 Z h b1 (.int b3)
theorem rm_au12 (G : GL l Z a0 zc dce kdce eed keed mroa mral mrul mrur) (F0 : ex2 Z h0 pa1) (F1 : fd3 Z h0 pa1 .null) (F2 : fd2 Z h0 pa1 (.int pi100)) (F3 : fd4 Z h0 pa1 (.int pi101)) (ne : n0 ≤ pa1) : M11 l Z 3 0 0 36 #[.ref pa1] h0 n0 [pa1] [] (Q11 Z pa1 dce pi101 h0) := by
  refine mi B11 ef9 (hEW G) fun s X0 hsf0 n0le => ?_
  have := F0.l
  refine oA 1 X0 d11_0 rfl rfl <| mP 4 0 X0 (rm_au11 G F0 F1 F2 F3 (by omega)) (u11 G) all0 d11_1 rfl rfl rfl lr (by decide) (aI (by omega) (by simp) all0) ?_
  rintro _ _ _ _ X1 ⟨rfl, q2, q3, q4, q5⟩ _ _ _
  refine sk [] rfl <| oA 5 X1 d11_4 rfl rfl <| oG 8 X1 (w69 G) Via.refl ((sg8 G).ext X1.old.2) d11_5 rfl ?_
  intro _ X7
  refine oP 11 (v' := (.ref dce)) X7 (w70 G) Via.refl q3 q2 (Or.inl (w71 G)) (w49 G) fd_3 rfl rfl d11_8 rfl (by omega) (Or.inl (by simp)) (sx X7 q2 nc1) ?_
  intro _ _ X8 W8 _
  have := W8.size
  have f9 := q3.same W8
  have f10 := q2.wr W8
  have f11 := q4.other W8 (Or.inr (sn4 G))
  have f12 := q5.other W8 (Or.inr (sn5 G))
  exact oz X8 d11_11 rfl (by decide) (by decide) (fun _ CC => ⟨rfl, f10, f9, f11, f12⟩)
def Q12 (Z : State) (b1 : Int32) (h0 : Heap) (v : Option Value) (h : Heap) (vm : Vm) : Prop := v = some (.int b1)
theorem rm_au13 (G : GL l Z a0 zc dce kdce eed keed mroa mral mrul mrur) (pc_0 : ¬ pi101 < pi100) : M19 l Z 0 0 0 0 #[.int pi100, .int pi101] h0 n0 [] [] (Q12 Z pi100 h0) := by
  refine mi B19 ef13 (hEW G) fun s X0 hsf0 n0le => ?_
  refine oI 1 X0 d19_0 rfl rfl <| oI 2 X0 d19_1 rfl rfl <| oN 5 X0 d19_2 rfl (flt pc_0).2.2.1 <| oI 6 X0 d19_5 rfl rfl <| og 10 X0 d19_6 (by decide) ?_
  exact o_iret X0 d19_10 rfl (by decide) (by decide) (fun _ CC => rfl)
def Q13 (Z : State) (h0 : Heap) (v : Option Value) (h : Heap) (vm : Vm) : Prop := ∃ (xa1 : Addr) (xk1 : ClassId), v = some (.ref xa1) ∧ av2 Z h xa1 xk1 0 [] ∧ ex3 Z h xa1 ∧ Ovr Z xk1 "java/lang/Object" ∧ h0.size ≤ xa1 ∧ h.size > xa1
theorem rm_au14 (G : GL l Z a0 zc dce kdce eed keed mroa mral mrul mrur)  : M18 l Z 1 1 0 40 #[.ref dce, i0, .ref mroa] h0 n0 [] [] (Q13 Z  h0) := by
  refine mi B18 ef12 (hEW G) fun s X0 hsf0 n0le => ?_
  refine oA 1 X0 d18_0 rfl rfl <| o_ldcK 3 X0 (w109 G) (sg5 G) d18_1 rfl ?_
  intro _ X2
  refine o_acmp 6 (same := true) X2 d18_3 rfl rfl (decide_eq_true rfl) (by decide) (by decide) <| oI 7 X2 d18_6 rfl rfl <| o_newR 10 (cap := 0) X2 (w110 G) (w111 G) d18_7 rfl (by decide) (by decide) (by decide) (by decide) (by decide) (ad := "[Ljava/lang/Object;") (by decide +kernel) ?_
  intro _ h3 b3 k3 X3 _ _ _ V3 O3 A3 _ _
  have V4 : av2 Z h3 b3 k3 0 [] := V3.pad (pad_rep [] .null 0)
  refine og 24 X3 d18_10 (by decide) <| oV 25 (l' := #[rr dce, ii 0, rr mroa, rr b3]) X3 d18_24 rfl rfl rfl <| oA 26 X3 d18_25 rfl rfl <| oc 27 (v := 0) X3 d18_26 rfl (by decide) <| oA 28 X3 d18_27 rfl rfl <| oc 29 (v := 0) X3 d18_28 rfl (by decide) <| oA 30 X3 d18_29 rfl rfl ?_
  have f5 := (sg0 G).ext X3.old.2
  refine oL 31 X3 f5 d18_30 rfl <| oI 32 X3 d18_31 rfl rfl <| mS 35 4 X3 (rm_au13 G (by decide)) (u13 G) all0 d18_32 rfl rfl rfl lr (by decide) all0 ?_
  rintro _ _ _ _ X6 rfl K6 _ _
  refine sk [i0, i0, .ref b3, i0, .ref dce] rfl ?_
  have f7 := f5.k0 K6
  have f8 := V4.k0 K6
  have f9 := A3.keep K6
  refine o_cp 38 (us := []) (vr := []) (W := 0) X6 (w116 G) (w119 G) (w117 G) (w118 G) f7 f8 (Or.inr ⟨rfl, rfl, trivial⟩) (by decide) (by decide) (by decide) (by decide) (by decide) rfl (Nat.le_of_ble_eq_true rfl) rfl d18_35 rfl rfl (by decide) (Nat.le_of_eq rfl) (by decide) (by omega) (Or.inr (by omega)) (sx X6 f9 nc3) ?_
  intro _ _ X10 K10 _ V10
  have := K10.1
  refine oA 39 X10 d18_38 rfl rfl ?_
  have f11 := f9.keep K10
  exact oR X10 d18_39 rfl rfl rfl (by decide) (by decide) (fun _ CC => ⟨b3, k3, rfl, V10, f11, O3, by omega⟩)
theorem rm_au15 (G : GL l Z a0 zc dce kdce eed keed mroa mral mrul mrur)  : M17 l Z 2 1 0 55 #[.ref dce, i0] h0 n0 [] [] (Q13 Z  h0) := by
  refine mi B17 ef8 (hEW G) fun s X0 hsf0 n0le => ?_
  refine oA 1 X0 d17_0 rfl rfl <| oI 2 X0 d17_1 rfl rfl <| oA 3 X0 d17_2 rfl rfl ?_
  have f1 := (sg2 G).ext X0.old.2
  refine o_gcV 6 (W := 2) X0 (w100 G) (w101 G) (nf_sel (w103 G)) (w103 G) (w102 G) (w104 G) f1 (sg5 G) rfl (by decide) (Nat.le_of_eq rfl) (by decide) d17_3 rfl ?_
  intro _ X3
  refine mS 9 0 X3 (rm_au14 G ) (u14 G) all0 d17_6 rfl rfl rfl lr (by decide) all0 ?_
  rintro _ _ _ _ X4 ⟨xa1_5, xk1_6, rfl, q7, q8, q9, _⟩ _ _ _
  refine sk [.ref xa1_5] rfl ?_
  exact oR X4 d17_9 rfl rfl rfl (by decide) (by decide) (fun _ CC => ⟨xa1_5, xk1_6, rfl, q7, q8, q9, by omega⟩)
theorem rm_au16 (G : GL l Z a0 zc dce kdce eed keed mroa mral mrul mrur) (F0 : fd3 Z h0 pa1 (.ref dce)) (F1 : fd4 Z h0 pa1 (.int 0)) : M16 l Z 3 1 0 68 #[.ref pa1] h0 n0 [] [] (Q13 Z  h0) := by
  refine mi B16 ef9 (hEW G) fun s X0 hsf0 n0le => ?_
  have := F0.l
  refine oA 1 X0 d16_0 rfl rfl <| oF 4 X0 (w70 G) Via.refl F0 d16_1 rfl ?_
  intro _ X2
  refine oA 5 X2 d16_4 rfl rfl <| oF 8 X2 (w94 G) Via.refl F1 d16_5 rfl ?_
  intro _ X4
  refine mS 11 0 X4 (rm_au15 G ) (u15 G) all0 d16_8 rfl rfl rfl lr (by decide) all0 ?_
  rintro _ _ _ _ X5 ⟨xa1_6, xk1_7, rfl, q8, q9, q10, _⟩ _ _ _
  refine sk [.ref xa1_6] rfl ?_
  exact oR X5 d16_11 rfl rfl rfl (by decide) (by decide) (fun _ CC => ⟨xa1_6, xk1_7, rfl, q8, q9, q10, by omega⟩)
def Q14 (Z : State) (b1 b2 : Addr) (h0 : Heap) (v : Option Value) (h : Heap) (vm : Vm) : Prop := v = none ∧ ex2 Z h b1 ∧ fd3 Z h b1 (.ref b2) ∧ fd2 Z h b1 (.int 0) ∧ fd4 Z h b1 (.int 0)
theorem rm_au17 (G : GL l Z a0 zc dce kdce eed keed mroa mral mrul mrur) (F0 : ex2 Z h0 pa1) (F1 : fd3 Z h0 pa1 .null) (F2 : fd2 Z h0 pa1 (.int 0)) (F3 : fd4 Z h0 pa1 (.int 0)) (F4 : ex2 Z h0 pa2) (F5 : fd3 Z h0 pa2 (.ref dce)) (F6 : fd4 Z h0 pa2 (.int 0)) (ne : NE pa1 pa2 ∧ n0 ≤ pa1) : M15 l Z 4 1 0 80 #[.ref pa1, .ref pa2] h0 n0 [pa1] [] (Q14 Z pa1 eed h0) := by
  refine mi B15 ef11 (hEW G) fun s X0 hsf0 n0le => ?_
  have := F0.l
  have := F4.l
  refine oA 1 X0 d15_0 rfl rfl <| mP 4 0 X0 (rm_au11 G F0 F1 F2 F3 (by omega)) (u11 G) all0 d15_1 rfl rfl rfl lr (by decide) (aI (by omega) (by simp) all0) ?_
  rintro _ _ _ _ X1 ⟨rfl, q2, q3, q4, q5⟩ K1 _ _
  refine sk [] rfl <| oA 5 X1 d15_4 rfl rfl ?_
  have f6 := F5.k1 K1 (by omega)
  have f7 := F6.k1 K1 (by omega)
  have f8 := F4.keep K1
  refine mF 10 0 X1 f8 (rm_au16 G f6 f7) (u16 G) all0 d15_5 rfl rfl rfl lr (by decide) all0 ?_
  rintro _ _ _ _ X9 ⟨xa1_10, _, rfl, q12, _, _, _⟩ K9 _ _
  refine sk [.ref xa1_10] rfl <| oV 11 (l' := #[rr pa1, rr pa2, rr xa1_10]) X9 d15_10 rfl rfl rfl <| oA 12 X9 d15_11 rfl rfl <| oA 13 X9 d15_12 rfl rfl <| oL 14 X9 q12 d15_13 rfl <| o_dupX1 15 X9 d15_14 rfl rfl rfl ?_
  have f16 := q5.k0 K9
  have f17 := q2.keep K9
  refine oP 18 (v' := (.int 0)) X9 (w94 G) Via.refl f16 f17 (Or.inl (w95 G)) (w49 G) fd_2 rfl rfl d15_15 rfl (by omega) (Or.inl (by simp)) (sx X9 f17 nc1) ?_
  intro _ _ X18 W18 _
  have := W18.size
  have f19 := f16.same W18
  refine oy 57 X18 d15_18 (by decide) ((if0 _ _).trans (teq (by decide)).1) <| oA 58 X18 d15_57 rfl rfl <| oG 61 X18 (w120 G) Via.refl ((sg9 G).ext X18.old.2) d15_58 rfl ?_
  intro _ X21
  have f22 := (q3.k0 K9).other W18 (Or.inr (sn6 G))
  have f23 := f17.wr W18
  refine oP 64 (v' := (.ref eed)) X21 (w70 G) Via.refl f22 f23 (Or.inl (w71 G)) (w49 G) fd_3 rfl rfl d15_61 rfl (by omega) (Or.inl (by simp)) (sx X21 f23 nc1) ?_
  intro _ _ X24 W24 _
  have := W24.size
  have f25 := f22.same W24
  have f26 := f23.wr W24
  have f27 := ((q4.k0 K9).other W18 (Or.inr (sn7 G))).other W24 (Or.inr (sn4 G))
  have f28 := f19.other W24 (Or.inr (sn5 G))
  exact oz X24 d15_64 rfl (by decide) (by decide) (fun _ CC => ⟨rfl, f26, f25, f27, f28⟩)
def Q15 (Z : State) (b1 b2 : Addr) (h0 : Heap) (v : Option Value) (h : Heap) (vm : Vm) : Prop := v = none ∧ ex4 Z h b1 ∧ fd7 Z h b1 (.ref b2) ∧ fd8 Z h b1 .null
theorem rm_au18 (G : GL l Z a0 zc dce kdce eed keed mroa mral mrul mrur) (F0 : ex4 Z h0 pa1) (F1 : fd7 Z h0 pa1 .null) (F2 : fd8 Z h0 pa1 .null) (ne : n0 ≤ pa1) : M23 l Z 1 0 0 12 #[.ref pa1, .ref pa2] h0 n0 [pa1] [] (Q15 Z pa1 pa2 h0) := by
  refine mi B23 ef4 (hEW G) fun s X0 hsf0 n0le => ?_
  have := F0.l
  refine oA 1 X0 d23_0 rfl rfl <| o_initO 4 (W := 0) X0 (w156 G) (w20 G) (w21 G) rfl (by decide) (Nat.le_of_eq rfl) (by decide) d23_1 rfl ?_
  intro _ X2
  refine oA 5 X2 d23_4 rfl rfl <| ifnonnullYesJ 16 X2 d23_5 (by decide) <| oA 17 X2 d23_16 rfl rfl <| oA 18 X2 d23_17 rfl rfl <| oP 21 (v' := (.ref pa2)) X2 (w157 G) Via.refl F1 F0 (Or.inr ⟨(w158 G), rfl, rfl⟩) (w139 G) fd_6 rfl rfl d23_18 rfl (by omega) (Or.inl (by simp)) (sx X2 F0 nc4) ?_
  intro _ _ X3 W3 _
  have := W3.size
  have f4 := F1.same W3
  have f5 := F0.wr W3
  have f6 := F2.other W3 (Or.inr (sn8 G))
  exact oz X3 d23_21 rfl (by decide) (by decide) (fun _ CC => ⟨rfl, f5, f4, f6⟩)
def Q16 (Z : State) (b1 b2 : Addr) (h0 : Heap) (v : Option Value) (h : Heap) (vm : Vm) : Prop := v = none ∧ ex4 Z h b1 ∧ fd7 Z h b1 (.ref b2) ∧ fd8 Z h b1 (.ref b2)
theorem rm_au19 (G : GL l Z a0 zc dce kdce eed keed mroa mral mrul mrur) (F0 : ex4 Z h0 pa1) (F1 : fd7 Z h0 pa1 .null) (F2 : fd8 Z h0 pa1 .null) (ne : n0 ≤ pa1) : M22 l Z 2 0 0 25 #[.ref pa1, .ref pa2] h0 n0 [pa1] [] (Q16 Z pa1 pa2 h0) := by
  refine mi B22 ef4 (hEW G) fun s X0 hsf0 n0le => ?_
  have := F0.l
  refine oA 1 X0 d22_0 rfl rfl <| oA 2 X0 d22_1 rfl rfl <| mP 5 0 X0 (rm_au18 G F0 F1 F2 (by omega)) (u18 G) all0 d22_2 rfl rfl rfl lr (by decide) (aI (by omega) (by simp) all0) ?_
  rintro _ _ _ _ X1 ⟨rfl, q2, q3, q4⟩ _ _ _
  refine sk [] rfl <| oA 6 X1 d22_5 rfl rfl <| oA 7 X1 d22_6 rfl rfl <| oP 10 (v' := (.ref pa2)) X1 (w159 G) Via.refl q4 q2 (Or.inr ⟨(w160 G), rfl, rfl⟩) (w139 G) fd_5 rfl rfl d22_7 rfl (by omega) (Or.inl (by simp)) (sx X1 q2 nc4) ?_
  intro _ _ X5 W5 _
  have := W5.size
  have f6 := q4.same W5
  have f7 := q2.wr W5
  have f8 := q3.other W5 (Or.inr (sn9 G))
  exact oz X5 d22_10 rfl (by decide) (by decide) (fun _ CC => ⟨rfl, f7, f8, f6⟩)
theorem rm_au20 (G : GL l Z a0 zc dce kdce eed keed mroa mral mrul mrur) (F0 : ex4 Z h0 pa1) (F1 : fd7 Z h0 pa1 .null) (F2 : fd8 Z h0 pa1 .null) (ne : n0 ≤ pa1) : M21 l Z 3 0 0 38 #[.ref pa1, .ref pa2] h0 n0 [pa1] [] (Q16 Z pa1 pa2 h0) := by
  refine mi B21 ef4 (hEW G) fun s X0 hsf0 n0le => ?_
  have := F0.l
  refine oA 1 X0 d21_0 rfl rfl <| oA 2 X0 d21_1 rfl rfl <| mP 5 0 X0 (rm_au19 G F0 F1 F2 (by omega)) (u19 G) all0 d21_2 rfl rfl rfl lr (by decide) (aI (by omega) (by simp) all0) ?_
  rintro _ _ _ _ X1 ⟨rfl, q2, q3, q4⟩ _ _ _
  refine sk [] rfl ?_
  exact oz X1 d21_5 rfl (by decide) (by decide) (fun _ CC => ⟨rfl, q2, q3, q4⟩)
def Q17 (Z : State) (b1 : Addr) (h0 : Heap) (v : Option Value) (h : Heap) (vm : Vm) : Prop := ∃ (xa1 : Addr), v = some (.ref xa1) ∧ ex4 Z h xa1 ∧ fd7 Z h xa1 (.ref b1) ∧ fd8 Z h xa1 (.ref b1) ∧ h0.size ≤ xa1 ∧ h.size > xa1
theorem rm_au21 (G : GL l Z a0 zc dce kdce eed keed mroa mral mrul mrur) (F0 : ex2 Z h0 pa1) : M20 l Z 4 1 2 52 #[.ref pa1] h0 n0 [] [] (Q17 Z pa1 h0) := by
  refine mi B20 ef9 (hEW G) fun s X0 hsf0 n0le => ?_
  have := F0.l
  refine oA 1 X0 d20_0 rfl rfl <| o_gcI 6 (W := 0) X0 (w125 G) (w101 G) (w126 G) (w127 G) (w102 G) (w128 G) (w129 G) (w130 G) (w104 G) (by decide) (by decide) rfl rfl F0 (sg4 G) rfl (by decide) (Nat.le_of_eq rfl) (by decide) d20_1 rfl ?_
  intro _ X2
  refine o_ldcK 8 X2 (w132 G) (sg6 G) d20_6 rfl ?_
  intro _ X4
  refine o_acmp 11 (same := false) X4 d20_8 rfl rfl (decide_eq_false (fun q => (sg4 G).ne (sg6 G) (by decide +kernel) (Value.ref.inj q))) (by decide) (by decide) <| oA 12 X4 d20_11 rfl rfl <| o_gcI 17 (W := 0) X4 (w134 G) (w101 G) (w126 G) (w127 G) (w102 G) (w128 G) (w129 G) (w130 G) (w104 G) (by decide) (by decide) rfl rfl F0 (sg4 G) rfl (by decide) (Nat.le_of_eq rfl) (by decide) d20_12 rfl ?_
  intro _ X6
  refine o_ldcK 19 X6 (w135 G) (sg7 G) d20_17 rfl ?_
  intro _ X8
  refine o_acmp 24 (same := false) X8 d20_19 rfl rfl (decide_eq_false (fun q => (sg4 G).ne (sg7 G) (by decide +kernel) (Value.ref.inj q))) (by decide) (by decide) <| oA 25 X8 d20_24 rfl rfl <| o_instY 28 X8 (w137 G) (Ins.of_exa F0 (w138 G)) d20_25 rfl ?_
  intro _ X10
  refine on 31 X10 d20_28 rfl ((if0 _ _).trans (feq (by decide)).1) <| o_new 34 X10 (w135 G) (w139 G) (w140 G) d20_31 rfl (by decide) (by decide) ?_
  intro _ h11 b11 X11 _ _ _ A11 D11 _ _ _
  have f12 : fd7 Z h11 b11 .null := D11 (Or.inr (w158 G)) fd_6
  have f13 : fd8 Z h11 b11 .null := D11 (Or.inr (w160 G)) fd_5
  refine oD 35 X11 d20_34 rfl rfl <| oA 36 X11 d20_35 rfl rfl <| mP 39 1 X11 (rm_au20 G A11 f12 f13 (by omega)) (u20 G) all0 d20_36 rfl rfl rfl lr (by decide) (aR (by omega) all0) ?_
  rintro _ _ _ _ X14 ⟨rfl, q15, q16, q17⟩ _ _ _
  refine sk [.ref b11] rfl <| og 50 X14 d20_39 (by decide) ?_
  exact oR X14 d20_50 rfl rfl rfl (by decide) (by decide) (fun _ CC => ⟨b11, rfl, q15, q16, q17, by omega⟩)
def Q18 (Z : State) (b1 b2 b3 : Addr) (h0 : Heap) (v : Option Value) (h : Heap) (vm : Vm) : Prop := ∃ (xa1 : Addr) (xa2 : Addr), v = none ∧ ex5 Z h b1 ∧ fd6 Z h b1 (.ref xa1) ∧ fd5 Z h b1 (.ref b2) ∧ ex4 Z h xa1 ∧ fd7 Z h xa1 (.ref xa2) ∧ fd8 Z h xa1 (.ref xa2) ∧ ex2 Z h xa2 ∧ fd3 Z h xa2 (.ref b3) ∧ fd2 Z h xa2 (.int 0) ∧ fd4 Z h xa2 (.int 0) ∧ h0.size ≤ xa1 ∧ h.size > xa1 ∧ h0.size ≤ xa2 ∧ h.size > xa2 ∧ NE xa1 xa2
theorem rm_au22 (G : GL l Z a0 zc dce kdce eed keed mroa mral mrul mrur) (F0 : ex5 Z h0 pa1) (F1 : fd6 Z h0 pa1 .null) (F2 : fd5 Z h0 pa1 .null) (F3 : ex2 Z h0 pa3) (F4 : fd3 Z h0 pa3 (.ref dce)) (F5 : fd4 Z h0 pa3 (.int 0)) (ne : NE pa1 pa3 ∧ n0 ≤ pa1) : M14 l Z 5 3 5 96 #[.ref pa1, .ref pa2, .ref pa3] h0 n0 [pa1] [] (Q18 Z pa1 pa2 eed h0) := by
  refine mi B14 ef10 (hEW G) fun s X0 hsf0 n0le => ?_
  have := F0.l
  have := F3.l
  refine oA 1 X0 d14_0 rfl rfl <| o_initO 4 (W := 0) X0 (w78 G) (w20 G) (w21 G) rfl (by decide) (Nat.le_of_eq rfl) (by decide) d14_1 rfl ?_
  intro _ X2
  refine oA 5 X2 d14_4 rfl rfl <| oA 6 X2 d14_5 rfl rfl <| oP 9 (v' := (.ref pa2)) X2 (w79 G) Via.refl F2 F0 (Or.inr ⟨(w80 G), rfl, rfl⟩) (w73 G) fd_4 rfl rfl d14_6 rfl (by omega) (Or.inl (by simp)) (sx X2 F0 nc2) ?_
  intro _ _ X3 W3 _
  have := W3.size
  have f4 := F2.same W3
  refine oA 10 X3 d14_9 rfl rfl <| o_new 13 X3 (w81 G) (w49 G) (w50 G) d14_10 rfl (by decide) (by decide) ?_
  intro _ h5 b5 X5 _ _ E5 A5 D5 _ _ _
  have f6 : fd2 Z h5 b5 (.int 0) := D5 (Or.inl (w68 G)) fd_2
  have f7 : fd3 Z h5 b5 .null := D5 (Or.inl (w71 G)) fd_3
  have f8 : fd4 Z h5 b5 (.int 0) := D5 (Or.inl (w95 G)) fd_2
  refine oD 14 X5 d14_13 rfl rfl <| oA 15 X5 d14_14 rfl rfl ?_
  have f9 := (F3.wr W3).ext E5
  have f10 := (F4.oth W3 (by omega)).ext E5
  have f11 := (F5.oth W3 (by omega)).ext E5
  refine mP 18 2 X5 (rm_au17 G A5 f7 f6 f8 f9 f10 f11 (by omega)) (u17 G) all0 d14_15 rfl rfl rfl lr (by decide) (aR (by omega) all0) ?_
  rintro _ _ _ _ X12 ⟨rfl, q13, q14, q15, q16⟩ K12 _ _
  refine sk [.ref b5, .ref pa1] rfl <| mS 21 1 X12 (rm_au21 G q13) (u21 G) all0 d14_18 rfl rfl rfl lr (by decide) all0 ?_
  rintro _ _ _ _ X17 ⟨xa1_18, rfl, q19, q20, q21, _⟩ K17 _ _
  refine sk [.ref xa1_18, .ref pa1] rfl ?_
  have f23 := (((F1.other W3 (Or.inr (sn10 G))).ext E5).k1 K12 (by omega)).k0 K17
  have f24 := (((F0.wr W3).ext E5).keep K12).keep K17
  refine oP 24 (v' := (.ref xa1_18)) X17 (w161 G) Via.refl f23 f24 (Or.inr ⟨(w162 G), rfl, rfl⟩) (w73 G) fd_5 rfl rfl d14_21 rfl (by omega) (Or.inl (by simp)) (sx X17 f24 nc2) ?_
  intro _ _ X25 W25 _
  have := W25.size
  have f26 := f23.same W25
  have f27 := f24.wr W25
  have f28 := (((f4.ext E5).k1 K12 (by omega)).k0 K17).other W25 (Or.inr (sn11 G))
  have f29 := q19.wr W25
  have f30 := q20.oth W25 (by omega)
  have f31 := q21.oth W25 (by omega)
  have f32 := (q13.keep K17).wr W25
  have f33 := (q14.k0 K17).oth W25 (by omega)
  have f34 := (q15.k0 K17).oth W25 (by omega)
  have f35 := (q16.k0 K17).oth W25 (by omega)
  exact oz X25 d14_24 rfl (by decide) (by decide) (fun _ CC => ⟨xa1_18, b5, rfl, f27, f26, f28, f29, f30, f31, f32, f33, f34, f35, by omega⟩)
def Q19 (Z : State) (b1 : Addr) (b2 : Int32) (h0 : Heap) (v : Option Value) (h : Heap) (vm : Vm) : Prop := ∃ (xa1 : Addr) (xk1 : ClassId), v = none ∧ ex6 Z h b1 ∧ fd10 Z h b1 (.int 0) ∧ fd11 Z h b1 (.int b2) ∧ fd9 Z h b1 (.ref xa1) ∧ av0 Z h xa1 xk1 16 [i0, i0, i0, i0, i0, i0, i0, i0, i0, i0, i0, i0, i0, i0, i0, i0] ∧ ex0 Z h xa1 ∧ Safe Z EL0 vm h xa1 ∧ h0.size ≤ xa1 ∧ h.size > xa1
theorem rm_au23 (G : GL l Z a0 zc dce kdce eed keed mroa mral mrul mrur) (F0 : ex6 Z h0 pa1) (F1 : fd10 Z h0 pa1 (.int pi1)) (F2 : fd11 Z h0 pa1 (.int pi2)) (F3 : fd9 Z h0 pa1 .null) (ne : n0 ≤ pa1) : M26 l Z 1 1 16 12 #[.ref pa1, .int 16] h0 n0 [pa1] [] (Q19 Z pa1 pi2 h0) := by
  refine mi B26 ef8 (hEW G) fun s X0 hsf0 n0le => ?_
  have := F0.l
  refine oA 1 X0 d26_0 rfl rfl <| o_initO 4 (W := 0) X0 (w180 G) (w20 G) (w21 G) rfl (by decide) (Nat.le_of_eq rfl) (by decide) d26_1 rfl ?_
  intro _ X2
  refine oG 7 X2 (w181 G) Via.refl ((sg10 G).ext X2.old.2) d26_4 rfl ?_
  intro _ X4
  refine on 10 X4 d26_7 rfl ((if0 _ _).trans (feq (hzc G)).1) <| oA 11 X4 d26_10 rfl rfl <| oI 12 X4 d26_11 rfl rfl <| nP (aty := .byte) 14 16 X4 (w14 G) d26_12 rfl (by decide) had_byte ?_
  intro _ h5 b5 k5 X5 _ _ E5 V5 A5 _ S5
  have V6 : av0 Z h5 b5 k5 16 [i0, i0, i0, i0, i0, i0, i0, i0, i0, i0, i0, i0, i0, i0, i0, i0] := V5.pad (pad_rep [] (.int (0 : Int32)) 16)
  have f7 := F3.ext E5
  have f8 := F0.ext E5
  refine oP 17 (v' := (.ref b5)) X5 (w182 G) Via.refl f7 f8 (Or.inl (w183 G)) (w169 G) fd_0 rfl rfl d26_14 rfl (by omega) (Or.inl (by simp)) (sx X5 f8 nc5) ?_
  intro _ _ X9 W9 C9
  have := W9.size
  have f10 := f7.same W9
  refine oA 18 X9 d26_17 rfl rfl <| oc 19 (v := 0) X9 d26_18 rfl (by decide) ?_
  have f11 := (F1.ext E5).other W9 (Or.inr (sn12 G))
  have f12 := f8.wr W9
  refine oP 22 (v' := (.int 0)) X9 (w184 G) Via.refl f11 f12 (Or.inl (w185 G)) (w169 G) fd_1 rfl rfl d26_19 rfl (by omega) (Or.inl (by simp)) (sx X9 f12 nc5) ?_
  intro _ _ X13 W13 C13
  have := W13.size
  have f14 := f11.same W13
  refine og 38 X13 d26_22 (by decide) ?_
  have f15 := f12.wr W13
  have f16 := ((F2.ext E5).other W9 (Or.inr (sn13 G))).other W13 (Or.inr (sn14 G))
  have f17 := f10.other W13 (Or.inr (sn15 G))
  have f18 := (V6.oth W9 (by omega)).oth W13 (by omega)
  have f19 := (A5.wr W9).wr W13
  have f20 := C13.safe (own_lt (by omega)) (C9.safe (own_lt (by omega)) S5)
  exact oz X13 d26_38 rfl (by decide) (by decide) (fun _ CC => ⟨b5, k5, rfl, f15, f14, f16, f17, f18, f19, (CC.safe (own_lt (by omega)) f20), by omega⟩)
theorem rm_au24 (G : GL l Z a0 zc dce kdce eed keed mroa mral mrul mrur) (F0 : ex6 Z h0 pa1) (F1 : fd10 Z h0 pa1 (.int pi100)) (F2 : fd11 Z h0 pa1 (.int pi101)) (F3 : fd9 Z h0 pa1 .null) (ne : n0 ≤ pa1) : M25 l Z 2 1 16 25 #[.ref pa1] h0 n0 [pa1] [] (Q19 Z pa1 pi101 h0) := by
  refine mi B25 ef9 (hEW G) fun s X0 hsf0 n0le => ?_
  have := F0.l
  refine oA 1 X0 d25_0 rfl rfl <| ob 3 (v := 16) X0 d25_1 rfl (by decide) <| mP 6 0 X0 (rm_au23 G F0 F1 F2 F3 (by omega)) (u23 G) all0 d25_3 rfl rfl rfl lr (by decide) (aI (by omega) (by simp) all0) ?_
  rintro _ _ _ _ X1 ⟨xa1_2, xk1_3, rfl, q4, q5, q6, q7, q8, q9, q10, _⟩ _ _ _
  refine sk [] rfl ?_
  exact oz X1 d25_6 rfl (by decide) (by decide) (fun _ CC => ⟨xa1_2, xk1_3, rfl, q4, q5, q6, q7, q8, q9, (CC.safe (own_lt (by omega)) q10), by omega⟩)
theorem rm_au25 (G : GL l Z a0 zc dce kdce eed keed mroa mral mrul mrur) (F0 : fd1 Z h0 pa1 (.int 0)) : M30 l Z 0 0 0 0 #[.ref pa1] h0 n0 [] [] (Q6 Z  h0) := by
  refine mi B30 ef9 (hEW G) fun s X0 hsf0 n0le => ?_
  have := F0.l
  refine oG 3 X0 (w4 G) Via.refl ((sg10 G).ext X0.old.2) d30_0 rfl ?_
  intro _ X2
  refine on 6 X2 d30_3 rfl ((if0 _ _).trans (feq (hzc G)).1) <| oA 7 X2 d30_6 rfl rfl <| oF 10 X2 (w24 G) Via.refl F0 d30_7 rfl ?_
  intro _ X4
  refine og 14 X4 d30_10 (by decide) ?_
  exact o_nret (y := (0 : Int32)) (t := .byte) X4 d30_14 rfl (by decide) (by simp) (by decide) (by decide) (fun _ CC => rfl)
theorem rm_au26 (G : GL l Z a0 zc dce kdce eed keed mroa mral mrul mrur) (F0 : ex1 Z h0 pa1) (F1 : fd1 Z h0 pa1 (.int 0)) (F2 : fd0 Z h0 pa1 (.ref pa2)) (F3 : av0 Z h0 pa2 pk1 1 ps_pa2) : M29 l Z 1 0 0 13 #[.ref pa1] h0 n0 [] [] (Q0 Z  h0) := by
  refine mi B29 ef9 (hEW G) fun s X0 hsf0 n0le => ?_
  have := F0.l
  have := F3.l
  refine oA 1 X0 d29_0 rfl rfl <| oF 4 X0 (w22 G) Via.refl F2 d29_1 rfl ?_
  intro _ X2
  refine oL 5 X2 F3 d29_4 rfl <| oA 6 X2 d29_5 rfl rfl <| mV 9 1 X2 F0 (rm_au25 G F1) (u25 G) all0 d29_6 rfl rfl rfl lr (by decide) all0 ?_
  rintro _ _ _ _ X3 rfl _ _ _
  refine sk [i0, .int 1] rfl <| o_ishr 10 (v := 1) X3 d29_9 rfl (by decide) ?_
  exact o_iret X3 d29_10 rfl (by decide) (by decide) (fun _ CC => rfl)
theorem rm_au27 (G : GL l Z a0 zc dce kdce eed keed mroa mral mrul mrur) (F0 : fd10 Z h0 pa1 (.int pi101)) (F1 : fd9 Z h0 pa1 (.ref pa2)) (F2 : av0 Z h0 pa2 pk1 pi103 ps_pa2) (pc_0 : ¬ (0 : Int32) < (pi100 - (pi103 >>> (pi101 &&& 31)))) : M31 l Z 0 0 0 0 #[.ref pa1, .int pi100] h0 n0 [] [] (Q9 Z  h0) := by
  refine mi B31 ef14 (hEW G) fun s X0 hsf0 n0le => ?_
  have := F0.l
  have := F2.l
  refine oA 1 X0 d31_0 rfl rfl <| oF 4 X0 (w182 G) Via.refl F1 d31_1 rfl ?_
  intro _ X2
  refine oL 5 X2 F2 d31_4 rfl <| oA 6 X2 d31_5 rfl rfl <| oF 9 X2 (w184 G) Via.refl F0 d31_6 rfl ?_
  intro _ X4
  refine o_ishr 10 (v := (pi103 >>> (pi101 &&& 31))) X4 d31_9 rfl rfl <| oT 11 (l' := #[rr pa1, ii pi100, ii (pi103 >>> (pi101 &&& 31))]) X4 d31_10 rfl rfl <| oI 12 X4 d31_11 rfl rfl <| oI 13 X4 d31_12 rfl rfl <| o_isub 14 (v := (pi100 - (pi103 >>> (pi101 &&& 31)))) X4 d31_13 rfl rfl <| oy 38 X4 d31_14 (by decide) ((if0 _ _).trans (flt pc_0).2.2.2) ?_
  exact oz X4 d31_38 rfl (by decide) (by decide) (fun _ CC => rfl)
theorem rm_au28 (G : GL l Z a0 zc dce kdce eed keed mroa mral mrul mrur) (F0 : fd10 Z h0 pa1 (.int 0)) (F1 : ex1 Z h0 pa2) (F2 : fd1 Z h0 pa2 (.int 0)) : M33 l Z 1 0 0 13 #[.ref pa1, .ref pa2] h0 n0 [] [] (Q9 Z  h0) := by
  refine mi B33 ef4 (hEW G) fun s X0 hsf0 n0le => ?_
  have := F0.l
  have := F1.l
  refine oG 3 X0 (w181 G) Via.refl ((sg10 G).ext X0.old.2) d33_0 rfl ?_
  intro _ X2
  refine on 6 X2 d33_3 rfl ((if0 _ _).trans (feq (hzc G)).1) <| oA 7 X2 d33_6 rfl rfl <| oF 10 X2 (w184 G) Via.refl F0 d33_7 rfl ?_
  intro _ X4
  refine oA 11 X4 d33_10 rfl rfl <| mV 14 1 X4 F1 (rm_au25 G F2) (u28 G) all0 d33_11 rfl rfl rfl lr (by decide) all0 ?_
  rintro _ _ _ _ X5 rfl _ _ _
  refine sk [i0, i0] rfl <| oY 21 X5 d33_14 (by decide) (teq (by decide)).1 ?_
  exact oz X5 d33_21 rfl (by decide) (by decide) (fun _ CC => rfl)
def Q20 (Z : State) (b1 : Addr) (b2 : ClassId) (b3 : Int32) (h0 : Heap) (v : Option Value) (h : Heap) (vm : Vm) : Prop := v = none ∧ av0 Z h b1 b2 16 [.int b3, i0, i0, i0, i0, i0, i0, i0, i0, i0, i0, i0, i0, i0, i0, i0] ∧ ex0 Z h b1
theorem rm_au29 (G : GL l Z a0 zc dce kdce eed keed mroa mral mrul mrur) (F0 : ex1 Z h0 pa1) (F1 : fd1 Z h0 pa1 (.int 0)) (F2 : fd0 Z h0 pa1 (.ref pa3)) (F3 : av0 Z h0 pa2 pk1 16 [i0, i0, i0, i0, i0, i0, i0, i0, i0, i0, i0, i0, i0, i0, i0, i0]) (F4 : ex0 Z h0 pa2) (F5 : av0 Z h0 pa3 pk2 1 [.int pi1]) (ne : NE pa1 pa2 ∧ NE pa2 pa3 ∧ n0 ≤ pa2) : M34 l Z 1 0 0 40 #[.ref pa1, .ref pa2, i0, i0] h0 n0 [pa2] [pa2] (Q20 Z pa2 pk1 pi1 h0) := by
  refine mi B34 ef16 (hEW G) fun s X0 hsf0 n0le => ?_
  have := F0.l
  have := F3.l
  have := F5.l
  have sf_pa2 := hsf0 pa2 (by simp)
  refine oA 1 X0 d34_0 rfl rfl <| mV 4 0 X0 F0 (rm_au25 G F1) (u25 G) all0 d34_1 rfl rfl rfl lr (by decide) all0 ?_
  rintro _ _ _ _ X1 rfl K1 _ C1
  refine sk [i0] rfl <| oI 5 X1 d34_4 rfl rfl <| oN 8 X1 d34_5 rfl (teq (by decide)).2 <| oA 9 X1 d34_8 rfl rfl ?_
  have f2 := F2.k0 K1
  refine oF 12 X1 (w22 G) Via.refl f2 d34_9 rfl ?_
  intro _ X4
  refine oc 13 (v := 0) X4 d34_12 rfl (by decide) <| oA 14 X4 d34_13 rfl rfl <| oI 15 X4 d34_14 rfl rfl <| oI 16 X4 d34_15 rfl rfl <| o_ishl 17 (v := 0) X4 d34_16 rfl (by decide) <| oA 18 X4 d34_17 rfl rfl <| oF 21 X4 (w22 G) Via.refl f2 d34_18 rfl ?_
  intro _ X6
  have f7 := F5.k0 K1
  refine oL 22 X6 f7 d34_21 rfl ?_
  have f8 := F3.k0 K1
  have f9 := C1.safe (own_lt (by omega)) sf_pa2
  refine o_cp 25 (us := [.int pi1]) (vr := [.int pi1, i0, i0, i0, i0, i0, i0, i0, i0, i0, i0, i0, i0, i0, i0, i0]) (W := 0) X6 (w229 G) (w119 G) (w117 G) (w118 G) f7 f8 (Or.inl ⟨rfl, rfl⟩) (by decide) (by decide) (by decide) (by decide) (by decide) rfl (Nat.le_of_ble_eq_true rfl) rfl d34_22 rfl rfl (by decide) (Nat.le_of_eq rfl) (by decide) (by omega) (Or.inl (by simp)) f9 ?_
  intro _ _ X10 K10 _ V10
  have := K10.1
  refine og 43 X10 d34_25 (by decide) ?_
  have f11 := (F4.keep K1).keep K10
  exact oz X10 d34_43 rfl (by decide) (by decide) (fun _ CC => ⟨rfl, V10, f11⟩)
theorem rm_au30 (G : GL l Z a0 zc dce kdce eed keed mroa mral mrul mrur) (F0 : ex6 Z h0 pa1) (F1 : fd10 Z h0 pa1 (.int 0)) (F2 : fd9 Z h0 pa1 (.ref pa3)) (F3 : ex1 Z h0 pa2) (F4 : fd1 Z h0 pa2 (.int 0)) (F5 : fd0 Z h0 pa2 (.ref pa4)) (F6 : av0 Z h0 pa3 pk1 16 [i0, i0, i0, i0, i0, i0, i0, i0, i0, i0, i0, i0, i0, i0, i0, i0]) (F7 : ex0 Z h0 pa3) (F8 : av0 Z h0 pa4 pk2 1 [.int pi1]) (ne : NE pa1 pa3 ∧ NE pa2 pa3 ∧ NE pa3 pa4 ∧ n0 ≤ pa3) : M32 l Z 2 0 0 55 #[.ref pa1, i0, .ref pa2] h0 n0 [pa3] [pa3] (Q20 Z pa3 pk1 pi1 h0) := by
  refine mi B32 ef15 (hEW G) fun s X0 hsf0 n0le => ?_
  have := F0.l
  have := F3.l
  have := F6.l
  have := F8.l
  have sf_pa3 := hsf0 pa3 (by simp)
  refine oA 1 X0 d32_0 rfl rfl <| oA 2 X0 d32_1 rfl rfl <| mV 5 0 X0 F0 (rm_au28 G F1 F3 F4) (u29 G) all0 d32_2 rfl rfl rfl lr (by decide) all0 ?_
  rintro _ _ _ _ X1 rfl K1 _ C1
  refine sk [] rfl <| oA 6 X1 d32_5 rfl rfl <| oA 7 X1 d32_6 rfl rfl ?_
  have f2 := F2.k0 K1
  refine oF 10 X1 (w182 G) Via.refl f2 d32_7 rfl ?_
  intro _ X4
  refine oI 11 X4 d32_10 rfl rfl <| oA 12 X4 d32_11 rfl rfl ?_
  have f5 := F1.k0 K1
  refine oF 15 X4 (w184 G) Via.refl f5 d32_12 rfl ?_
  intro _ X7
  have f8 := F3.keep K1
  have f9 := F4.k0 K1
  have f10 := F5.k0 K1
  have f11 := F6.k0 K1
  have f12 := F7.keep K1
  have f13 := F8.k0 K1
  have f14 := C1.safe (own_lt (by omega)) sf_pa3
  refine mV 18 0 X7 f8 (rm_au29 G f8 f9 f10 f11 f12 f13 (by omega)) (u30 G) (sS (by omega) f14 all0) d32_15 rfl rfl rfl lr (by decide) (aI (by omega) (by simp) all0) ?_
  rintro _ _ _ _ X15 ⟨rfl, q16, q17⟩ _ _ _
  refine sk [] rfl ?_
  exact oz X15 d32_18 rfl (by decide) (by decide) (fun _ CC => ⟨rfl, q16, q17⟩)
def Q21 (Z : State) (b1 b2 : Addr) (b3 : ClassId) (b4 : Int32) (h0 : Heap) (v : Option Value) (h : Heap) (vm : Vm) : Prop := v = some (.ref b1) ∧ ex6 Z h b1 ∧ fd10 Z h b1 (.int 0) ∧ fd11 Z h b1 (.int 1) ∧ fd9 Z h b1 (.ref b2) ∧ av0 Z h b2 b3 16 [.int b4, i0, i0, i0, i0, i0, i0, i0, i0, i0, i0, i0, i0, i0, i0, i0] ∧ ex0 Z h b2
theorem rm_au31 (G : GL l Z a0 zc dce kdce eed keed mroa mral mrul mrur) (F0 : ex6 Z h0 pa1) (F1 : fd10 Z h0 pa1 (.int 0)) (F2 : fd11 Z h0 pa1 (.int 0)) (F3 : fd9 Z h0 pa1 (.ref pa3)) (F4 : ex1 Z h0 pa2) (F5 : fd1 Z h0 pa2 (.int 0)) (F6 : fd0 Z h0 pa2 (.ref pa4)) (F7 : av0 Z h0 pa3 pk1 16 [i0, i0, i0, i0, i0, i0, i0, i0, i0, i0, i0, i0, i0, i0, i0, i0]) (F8 : ex0 Z h0 pa3) (F9 : av0 Z h0 pa4 pk2 1 [.int pi1]) (ne : NE pa1 pa2 ∧ NE pa1 pa3 ∧ NE pa1 pa4 ∧ NE pa2 pa3 ∧ NE pa3 pa4 ∧ n0 ≤ pa1 ∧ n0 ≤ pa3) : M28 l Z 3 0 0 69 #[.ref pa1, .ref pa2] h0 n0 [pa1, pa3] [pa3] (Q21 Z pa1 pa3 pk1 pi1 h0) := by
  refine mi B28 ef11 (hEW G) fun s X0 hsf0 n0le => ?_
  have := F0.l
  have := F4.l
  have := F7.l
  have := F9.l
  have sf_pa3 := hsf0 pa3 (by simp)
  refine oA 1 X0 d28_0 rfl rfl <| ifnonnullYesJ 9 X0 d28_1 (by decide) <| oA 10 X0 d28_9 rfl rfl <| mV 13 0 X0 F4 (rm_au26 G F4 F5 F6 F9) (u26 G) all0 d28_10 rfl rfl rfl lr (by decide) all0 ?_
  rintro _ _ _ _ X1 rfl K1 _ C1
  refine sk [.int 1] rfl <| oT 14 (l' := #[rr pa1, rr pa2, ii 1]) X1 d28_13 rfl rfl <| oA 15 X1 d28_14 rfl rfl <| oA 16 X1 d28_15 rfl rfl ?_
  have f2 := F2.k0 K1
  refine oF 19 X1 (w206 G) Via.refl f2 d28_16 rfl ?_
  intro _ X4
  refine oI 20 X4 d28_19 rfl rfl <| o_iadd 21 (v := 1) X4 d28_20 rfl (by decide) ?_
  have f5 := F1.k0 K1
  have f6 := F3.k0 K1
  have f7 := F7.k0 K1
  have f8 := F0.keep K1
  refine mV 24 0 X4 f8 (rm_au27 G f5 f6 f7 (by decide)) (u27 G) all0 d28_21 rfl rfl rfl lr (by decide) all0 ?_
  rintro _ _ _ _ X9 rfl K9 _ C9
  refine sk [] rfl <| oA 25 X9 d28_24 rfl rfl <| oA 26 X9 d28_25 rfl rfl ?_
  have f10 := f2.k0 K9
  refine oF 29 X9 (w206 G) Via.refl f10 d28_26 rfl ?_
  intro _ X12
  refine oA 30 X12 d28_29 rfl rfl ?_
  have f13 := f8.keep K9
  have f14 := f5.k0 K9
  have f15 := f6.k0 K9
  have f16 := (F4.keep K1).keep K9
  have f17 := (F5.k0 K1).k0 K9
  have f18 := (F6.k0 K1).k0 K9
  have f19 := f7.k0 K9
  have f20 := (F8.keep K1).keep K9
  have f21 := (F9.k0 K1).k0 K9
  have f22 := C9.safe (own_lt (by omega)) (C1.safe (own_lt (by omega)) sf_pa3)
  refine mV 33 0 X12 f13 (rm_au30 G f13 f14 f15 f16 f17 f18 f19 f20 f21 (by omega)) (u31 G) (sS (by omega) f22 all0) d28_30 rfl rfl rfl lr (by decide) (aI (by omega) (by simp) all0) ?_
  rintro _ _ _ _ X23 ⟨rfl, q24, q25⟩ K23 _ _
  refine sk [] rfl <| oA 34 X23 d28_33 rfl rfl <| oD 35 X23 d28_34 rfl rfl ?_
  have f26 := f10.k1 K23 (by omega)
  refine oF 38 X23 (w206 G) Via.refl f26 d28_35 rfl ?_
  intro _ X28
  refine oI 39 X28 d28_38 rfl rfl <| o_iadd 40 (v := 1) X28 d28_39 rfl (by decide) ?_
  have f29 := f13.keep K23
  refine oP 43 (v' := (.int 1)) X28 (w206 G) Via.refl f26 f29 (Or.inl (w207 G)) (w169 G) fd_2 rfl rfl d28_40 rfl (by omega) (Or.inl (by simp)) (sx X28 f29 nc5) ?_
  intro _ _ X30 W30 _
  have := W30.size
  have f31 := f26.same W30
  refine oA 44 X30 d28_43 rfl rfl ?_
  have f32 := f29.wr W30
  have f33 := (f14.k1 K23 (by omega)).other W30 (Or.inr (sn16 G))
  have f34 := (f15.k1 K23 (by omega)).other W30 (Or.inr (sn17 G))
  have f35 := q24.oth W30 (by omega)
  have f36 := q25.wr W30
  exact oR X30 d28_44 rfl rfl rfl (by decide) (by decide) (fun _ CC => ⟨rfl, f32, f33, f31, f34, f35, f36⟩)
theorem rm_au32 (G : GL l Z a0 zc dce kdce eed keed mroa mral mrul mrur) (F0 : ex6 Z h0 pa1) (F1 : fd10 Z h0 pa1 (.int 0)) (F2 : fd11 Z h0 pa1 (.int 0)) (F3 : fd9 Z h0 pa1 (.ref pa3)) (F4 : ex1 Z h0 pa2) (F5 : fd1 Z h0 pa2 (.int 0)) (F6 : fd0 Z h0 pa2 (.ref pa4)) (F7 : av0 Z h0 pa3 pk1 16 [i0, i0, i0, i0, i0, i0, i0, i0, i0, i0, i0, i0, i0, i0, i0, i0]) (F8 : ex0 Z h0 pa3) (F9 : av0 Z h0 pa4 pk2 1 [.int pi1]) (ne : NE pa1 pa2 ∧ NE pa1 pa3 ∧ NE pa1 pa4 ∧ NE pa2 pa3 ∧ NE pa3 pa4 ∧ n0 ≤ pa1 ∧ n0 ≤ pa3) : M27 l Z 4 0 0 83 #[.ref pa1, .ref pa2] h0 n0 [pa1, pa3] [pa3] (Q21 Z pa1 pa3 pk1 pi1 h0) := by
  refine mi B27 ef4 (hEW G) fun s X0 hsf0 n0le => ?_
  have := F0.l
  have := F4.l
  have := F7.l
  have := F9.l
  have sf_pa3 := hsf0 pa3 (by simp)
  refine oA 1 X0 d27_0 rfl rfl <| oA 2 X0 d27_1 rfl rfl <| mU 5 0 X0 F0 (rm_au31 G F0 F1 F2 F3 F4 F5 F6 F7 F8 F9 (by omega)) (u32 G) (sS (by omega) sf_pa3 all0) d27_2 rfl rfl rfl lr (by decide) (aI (by omega) (by simp) (aI (by omega) (by simp) all0)) ?_
  rintro _ _ _ _ X1 ⟨rfl, q2, q3, q4, q5, q6, q7⟩ _ _ _
  refine sk [.ref pa1] rfl <| o_pop 6 X1 d27_5 rfl rfl <| oA 7 X1 d27_6 rfl rfl ?_
  exact oR X1 d27_7 rfl rfl rfl (by decide) (by decide) (fun _ CC => ⟨rfl, q2, q3, q4, q5, q6, q7⟩)
def Q22 (Z : State) (b1 : Addr) (b2 : ClassId) (b3 b4 : Int32) (h0 : Heap) (v : Option Value) (h : Heap) (vm : Vm) : Prop := v = none ∧ av0 Z h b1 b2 16 [.int b3, .int b4, i0, i0, i0, i0, i0, i0, i0, i0, i0, i0, i0, i0, i0, i0] ∧ ex0 Z h b1
theorem rm_au33 (G : GL l Z a0 zc dce kdce eed keed mroa mral mrul mrur) (F0 : ex1 Z h0 pa1) (F1 : fd1 Z h0 pa1 (.int 0)) (F2 : fd0 Z h0 pa1 (.ref pa3)) (F3 : av0 Z h0 pa2 pk1 16 [.int pi1, i0, i0, i0, i0, i0, i0, i0, i0, i0, i0, i0, i0, i0, i0, i0]) (F4 : ex0 Z h0 pa2) (F5 : av0 Z h0 pa3 pk2 1 [.int pi2]) (ne : NE pa1 pa2 ∧ NE pa2 pa3 ∧ n0 ≤ pa2) : M34 l Z 1 0 0 40 #[.ref pa1, .ref pa2, .int 1, i0] h0 n0 [pa2] [pa2] (Q22 Z pa2 pk1 pi1 pi2 h0) := by
  refine mi B34 ef16 (hEW G) fun s X0 hsf0 n0le => ?_
  have := F0.l
  have := F3.l
  have := F5.l
  have sf_pa2 := hsf0 pa2 (by simp)
  refine oA 1 X0 d34_0 rfl rfl <| mV 4 0 X0 F0 (rm_au25 G F1) (u25 G) all0 d34_1 rfl rfl rfl lr (by decide) all0 ?_
  rintro _ _ _ _ X1 rfl K1 _ C1
  refine sk [i0] rfl <| oI 5 X1 d34_4 rfl rfl <| oN 8 X1 d34_5 rfl (teq (by decide)).2 <| oA 9 X1 d34_8 rfl rfl ?_
  have f2 := F2.k0 K1
  refine oF 12 X1 (w22 G) Via.refl f2 d34_9 rfl ?_
  intro _ X4
  refine oc 13 (v := 0) X4 d34_12 rfl (by decide) <| oA 14 X4 d34_13 rfl rfl <| oI 15 X4 d34_14 rfl rfl <| oI 16 X4 d34_15 rfl rfl <| o_ishl 17 (v := 1) X4 d34_16 rfl (by decide) <| oA 18 X4 d34_17 rfl rfl <| oF 21 X4 (w22 G) Via.refl f2 d34_18 rfl ?_
  intro _ X6
  have f7 := F5.k0 K1
  refine oL 22 X6 f7 d34_21 rfl ?_
  have f8 := F3.k0 K1
  have f9 := C1.safe (own_lt (by omega)) sf_pa2
  refine o_cp 25 (us := [.int pi2]) (vr := [.int pi1, .int pi2, i0, i0, i0, i0, i0, i0, i0, i0, i0, i0, i0, i0, i0, i0]) (W := 0) X6 (w229 G) (w119 G) (w117 G) (w118 G) f7 f8 (Or.inl ⟨rfl, rfl⟩) (by decide) (by decide) (by decide) (by decide) (by decide) rfl (Nat.le_of_ble_eq_true rfl) rfl d34_22 rfl rfl (by decide) (Nat.le_of_eq rfl) (by decide) (by omega) (Or.inl (by simp)) f9 ?_
  intro _ _ X10 K10 _ V10
  have := K10.1
  refine og 43 X10 d34_25 (by decide) ?_
  have f11 := (F4.keep K1).keep K10
  exact oz X10 d34_43 rfl (by decide) (by decide) (fun _ CC => ⟨rfl, V10, f11⟩)
theorem rm_au34 (G : GL l Z a0 zc dce kdce eed keed mroa mral mrul mrur) (F0 : ex6 Z h0 pa1) (F1 : fd10 Z h0 pa1 (.int 0)) (F2 : fd9 Z h0 pa1 (.ref pa3)) (F3 : ex1 Z h0 pa2) (F4 : fd1 Z h0 pa2 (.int 0)) (F5 : fd0 Z h0 pa2 (.ref pa4)) (F6 : av0 Z h0 pa3 pk1 16 [.int pi1, i0, i0, i0, i0, i0, i0, i0, i0, i0, i0, i0, i0, i0, i0, i0]) (F7 : ex0 Z h0 pa3) (F8 : av0 Z h0 pa4 pk2 1 [.int pi2]) (ne : NE pa1 pa3 ∧ NE pa2 pa3 ∧ NE pa3 pa4 ∧ n0 ≤ pa3) : M32 l Z 2 0 0 55 #[.ref pa1, .int 1, .ref pa2] h0 n0 [pa3] [pa3] (Q22 Z pa3 pk1 pi1 pi2 h0) := by
  refine mi B32 ef15 (hEW G) fun s X0 hsf0 n0le => ?_
  have := F0.l
  have := F3.l
  have := F6.l
  have := F8.l
  have sf_pa3 := hsf0 pa3 (by simp)
  refine oA 1 X0 d32_0 rfl rfl <| oA 2 X0 d32_1 rfl rfl <| mV 5 0 X0 F0 (rm_au28 G F1 F3 F4) (u29 G) all0 d32_2 rfl rfl rfl lr (by decide) all0 ?_
  rintro _ _ _ _ X1 rfl K1 _ C1
  refine sk [] rfl <| oA 6 X1 d32_5 rfl rfl <| oA 7 X1 d32_6 rfl rfl ?_
  have f2 := F2.k0 K1
  refine oF 10 X1 (w182 G) Via.refl f2 d32_7 rfl ?_
  intro _ X4
  refine oI 11 X4 d32_10 rfl rfl <| oA 12 X4 d32_11 rfl rfl ?_
  have f5 := F1.k0 K1
  refine oF 15 X4 (w184 G) Via.refl f5 d32_12 rfl ?_
  intro _ X7
  have f8 := F3.keep K1
  have f9 := F4.k0 K1
  have f10 := F5.k0 K1
  have f11 := F6.k0 K1
  have f12 := F7.keep K1
  have f13 := F8.k0 K1
  have f14 := C1.safe (own_lt (by omega)) sf_pa3
  refine mV 18 0 X7 f8 (rm_au33 G f8 f9 f10 f11 f12 f13 (by omega)) (u30 G) (sS (by omega) f14 all0) d32_15 rfl rfl rfl lr (by decide) (aI (by omega) (by simp) all0) ?_
  rintro _ _ _ _ X15 ⟨rfl, q16, q17⟩ _ _ _
  refine sk [] rfl ?_
  exact oz X15 d32_18 rfl (by decide) (by decide) (fun _ CC => ⟨rfl, q16, q17⟩)
def Q23 (Z : State) (b1 b2 : Addr) (b3 : ClassId) (b4 b5 : Int32) (h0 : Heap) (v : Option Value) (h : Heap) (vm : Vm) : Prop := v = some (.ref b1) ∧ ex6 Z h b1 ∧ fd10 Z h b1 (.int 0) ∧ fd11 Z h b1 (.int 2) ∧ fd9 Z h b1 (.ref b2) ∧ av0 Z h b2 b3 16 [.int b4, .int b5, i0, i0, i0, i0, i0, i0, i0, i0, i0, i0, i0, i0, i0, i0] ∧ ex0 Z h b2
theorem rm_au35 (G : GL l Z a0 zc dce kdce eed keed mroa mral mrul mrur) (F0 : ex6 Z h0 pa1) (F1 : fd10 Z h0 pa1 (.int 0)) (F2 : fd11 Z h0 pa1 (.int 1)) (F3 : fd9 Z h0 pa1 (.ref pa3)) (F4 : ex1 Z h0 pa2) (F5 : fd1 Z h0 pa2 (.int 0)) (F6 : fd0 Z h0 pa2 (.ref pa4)) (F7 : av0 Z h0 pa3 pk1 16 [.int pi1, i0, i0, i0, i0, i0, i0, i0, i0, i0, i0, i0, i0, i0, i0, i0]) (F8 : ex0 Z h0 pa3) (F9 : av0 Z h0 pa4 pk2 1 [.int pi2]) (ne : NE pa1 pa2 ∧ NE pa1 pa3 ∧ NE pa1 pa4 ∧ NE pa2 pa3 ∧ NE pa3 pa4 ∧ n0 ≤ pa1 ∧ n0 ≤ pa3) : M28 l Z 3 0 0 69 #[.ref pa1, .ref pa2] h0 n0 [pa1, pa3] [pa3] (Q23 Z pa1 pa3 pk1 pi1 pi2 h0) := by
  refine mi B28 ef11 (hEW G) fun s X0 hsf0 n0le => ?_
  have := F0.l
  have := F4.l
  have := F7.l
  have := F9.l
  have sf_pa3 := hsf0 pa3 (by simp)
  refine oA 1 X0 d28_0 rfl rfl <| ifnonnullYesJ 9 X0 d28_1 (by decide) <| oA 10 X0 d28_9 rfl rfl <| mV 13 0 X0 F4 (rm_au26 G F4 F5 F6 F9) (u26 G) all0 d28_10 rfl rfl rfl lr (by decide) all0 ?_
  rintro _ _ _ _ X1 rfl K1 _ C1
  refine sk [.int 1] rfl <| oT 14 (l' := #[rr pa1, rr pa2, ii 1]) X1 d28_13 rfl rfl <| oA 15 X1 d28_14 rfl rfl <| oA 16 X1 d28_15 rfl rfl ?_
  have f2 := F2.k0 K1
  refine oF 19 X1 (w206 G) Via.refl f2 d28_16 rfl ?_
  intro _ X4
  refine oI 20 X4 d28_19 rfl rfl <| o_iadd 21 (v := 2) X4 d28_20 rfl (by decide) ?_
  have f5 := F1.k0 K1
  have f6 := F3.k0 K1
  have f7 := F7.k0 K1
  have f8 := F0.keep K1
  refine mV 24 0 X4 f8 (rm_au27 G f5 f6 f7 (by decide)) (u27 G) all0 d28_21 rfl rfl rfl lr (by decide) all0 ?_
  rintro _ _ _ _ X9 rfl K9 _ C9
  refine sk [] rfl <| oA 25 X9 d28_24 rfl rfl <| oA 26 X9 d28_25 rfl rfl ?_
  have f10 := f2.k0 K9
  refine oF 29 X9 (w206 G) Via.refl f10 d28_26 rfl ?_
  intro _ X12
  refine oA 30 X12 d28_29 rfl rfl ?_
  have f13 := f8.keep K9
  have f14 := f5.k0 K9
  have f15 := f6.k0 K9
  have f16 := (F4.keep K1).keep K9
  have f17 := (F5.k0 K1).k0 K9
  have f18 := (F6.k0 K1).k0 K9
  have f19 := f7.k0 K9
  have f20 := (F8.keep K1).keep K9
  have f21 := (F9.k0 K1).k0 K9
  have f22 := C9.safe (own_lt (by omega)) (C1.safe (own_lt (by omega)) sf_pa3)
  refine mV 33 0 X12 f13 (rm_au34 G f13 f14 f15 f16 f17 f18 f19 f20 f21 (by omega)) (u31 G) (sS (by omega) f22 all0) d28_30 rfl rfl rfl lr (by decide) (aI (by omega) (by simp) all0) ?_
  rintro _ _ _ _ X23 ⟨rfl, q24, q25⟩ K23 _ _
  refine sk [] rfl <| oA 34 X23 d28_33 rfl rfl <| oD 35 X23 d28_34 rfl rfl ?_
  have f26 := f10.k1 K23 (by omega)
  refine oF 38 X23 (w206 G) Via.refl f26 d28_35 rfl ?_
  intro _ X28
  refine oI 39 X28 d28_38 rfl rfl <| o_iadd 40 (v := 2) X28 d28_39 rfl (by decide) ?_
  have f29 := f13.keep K23
  refine oP 43 (v' := (.int 2)) X28 (w206 G) Via.refl f26 f29 (Or.inl (w207 G)) (w169 G) fd_2 rfl rfl d28_40 rfl (by omega) (Or.inl (by simp)) (sx X28 f29 nc5) ?_
  intro _ _ X30 W30 _
  have := W30.size
  have f31 := f26.same W30
  refine oA 44 X30 d28_43 rfl rfl ?_
  have f32 := f29.wr W30
  have f33 := (f14.k1 K23 (by omega)).other W30 (Or.inr (sn16 G))
  have f34 := (f15.k1 K23 (by omega)).other W30 (Or.inr (sn17 G))
  have f35 := q24.oth W30 (by omega)
  have f36 := q25.wr W30
  exact oR X30 d28_44 rfl rfl rfl (by decide) (by decide) (fun _ CC => ⟨rfl, f32, f33, f31, f34, f35, f36⟩)
theorem rm_au36 (G : GL l Z a0 zc dce kdce eed keed mroa mral mrul mrur) (F0 : ex6 Z h0 pa1) (F1 : fd10 Z h0 pa1 (.int 0)) (F2 : fd11 Z h0 pa1 (.int 1)) (F3 : fd9 Z h0 pa1 (.ref pa3)) (F4 : ex1 Z h0 pa2) (F5 : fd1 Z h0 pa2 (.int 0)) (F6 : fd0 Z h0 pa2 (.ref pa4)) (F7 : av0 Z h0 pa3 pk1 16 [.int pi1, i0, i0, i0, i0, i0, i0, i0, i0, i0, i0, i0, i0, i0, i0, i0]) (F8 : ex0 Z h0 pa3) (F9 : av0 Z h0 pa4 pk2 1 [.int pi100]) (ne : NE pa1 pa2 ∧ NE pa1 pa3 ∧ NE pa1 pa4 ∧ NE pa2 pa3 ∧ NE pa3 pa4 ∧ n0 ≤ pa1 ∧ n0 ≤ pa3) : M27 l Z 4 0 0 83 #[.ref pa1, .ref pa2] h0 n0 [pa1, pa3] [pa3] (Q23 Z pa1 pa3 pk1 pi1 pi100 h0) := by
  refine mi B27 ef4 (hEW G) fun s X0 hsf0 n0le => ?_
  have := F0.l
  have := F4.l
  have := F7.l
  have := F9.l
  have sf_pa3 := hsf0 pa3 (by simp)
  refine oA 1 X0 d27_0 rfl rfl <| oA 2 X0 d27_1 rfl rfl <| mU 5 0 X0 F0 (rm_au35 G F0 F1 F2 F3 F4 F5 F6 F7 F8 F9 (by omega)) (u32 G) (sS (by omega) sf_pa3 all0) d27_2 rfl rfl rfl lr (by decide) (aI (by omega) (by simp) (aI (by omega) (by simp) all0)) ?_
  rintro _ _ _ _ X1 ⟨rfl, q2, q3, q4, q5, q6, q7⟩ _ _ _
  refine sk [.ref pa1] rfl <| o_pop 6 X1 d27_5 rfl rfl <| oA 7 X1 d27_6 rfl rfl ?_
  exact oR X1 d27_7 rfl rfl rfl (by decide) (by decide) (fun _ CC => ⟨rfl, q2, q3, q4, q5, q6, q7⟩)
def Q24 (Z : State) (b1 : Addr) (b2 b3 : Int32) (b4 : Addr) (h0 : Heap) (v : Option Value) (h : Heap) (vm : Vm) : Prop := v = none ∧ ex7 Z h b1 ∧ fd15 Z h b1 (.int b2) ∧ fd14 Z h b1 (.int b3) ∧ fd13 Z h b1 (.int (-1)) ∧ fd12 Z h b1 (.ref b4)
theorem rm_au37 (G : GL l Z a0 zc dce kdce eed keed mroa mral mrul mrur) (F0 : ex7 Z h0 pa1) (F1 : fd15 Z h0 pa1 (.int pi102)) (F2 : fd14 Z h0 pa1 (.int pi103)) (F3 : fd13 Z h0 pa1 (.int pi104)) (F4 : fd12 Z h0 pa1 .null) (F5 : fd2 Z h0 pa2 (.int pi1)) (ne : NE pa1 pa2 ∧ n0 ≤ pa1) : M40 l Z 1 0 0 12 #[.ref pa1, .ref pa2] h0 n0 [pa1] [] (Q24 Z pa1 pi102 pi1 pa2 h0) := by
  refine mi B40 ef4 (hEW G) fun s X0 hsf0 n0le => ?_
  have := F0.l
  have := F5.l
  refine oA 1 X0 d40_0 rfl rfl <| oA 2 X0 d40_1 rfl rfl <| oP 5 (v' := (.ref pa2)) X0 (w266 G) Via.refl F4 F0 (Or.inr ⟨(w267 G), rfl, rfl⟩) (w260 G) fd_7 rfl rfl d40_2 rfl (by omega) (Or.inl (by simp)) (sx X0 F0 nc6) ?_
  intro _ _ X1 W1 _
  have := W1.size
  have f2 := F4.same W1
  refine oA 6 X1 d40_5 rfl rfl <| o_initO 9 (W := 0) X1 (w268 G) (w20 G) (w21 G) rfl (by decide) (Nat.le_of_eq rfl) (by decide) d40_6 rfl ?_
  intro _ X4
  refine oA 10 X4 d40_9 rfl rfl <| oc 11 (v := (-1)) X4 d40_10 rfl (by decide) ?_
  have f5 := F3.other W1 (Or.inr (sn18 G))
  have f6 := F0.wr W1
  refine oP 14 (v' := (.int (-1))) X4 (w269 G) Via.refl f5 f6 (Or.inl (w270 G)) (w260 G) fd_2 rfl rfl d40_11 rfl (by omega) (Or.inl (by simp)) (sx X4 f6 nc6) ?_
  intro _ _ X7 W7 _
  have := W7.size
  have f8 := f5.same W7
  refine oA 15 X7 d40_14 rfl rfl <| oA 16 X7 d40_15 rfl rfl ?_
  have f9 := f2.other W7 (Or.inr (sn19 G))
  refine oF 19 X7 (w266 G) Via.refl f9 d40_16 rfl ?_
  intro _ X11
  have f12 := (F5.oth W1 (by omega)).oth W7 (by omega)
  refine oF 22 X11 (w271 G) (Via.of (w272 G)) f12 d40_19 rfl ?_
  intro _ X14
  have f15 := (F2.other W1 (Or.inr (sn20 G))).other W7 (Or.inr (sn21 G))
  have f16 := f6.wr W7
  refine oP 25 (v' := (.int pi1)) X14 (w273 G) Via.refl f15 f16 (Or.inl (w274 G)) (w260 G) fd_2 rfl rfl d40_22 rfl (by omega) (Or.inl (by simp)) (sx X14 f16 nc6) ?_
  intro _ _ X17 W17 _
  have := W17.size
  have f18 := f15.same W17
  have f19 := f16.wr W17
  have f20 := ((F1.other W1 (Or.inr (sn22 G))).other W7 (Or.inr (sn23 G))).other W17 (Or.inr (sn24 G))
  have f21 := f8.other W17 (Or.inr (sn25 G))
  have f22 := f9.other W17 (Or.inr (sn26 G))
  exact oz X17 d40_25 rfl (by decide) (by decide) (fun _ CC => ⟨rfl, f19, f20, f18, f21, f22⟩)
def Q25 (Z : State) (b1 : Int32) (b2 : Addr) (h0 : Heap) (v : Option Value) (h : Heap) (vm : Vm) : Prop := ∃ (xa1 : Addr), v = some (.ref xa1) ∧ ex7 Z h xa1 ∧ fd15 Z h xa1 (.int 0) ∧ fd14 Z h xa1 (.int b1) ∧ fd13 Z h xa1 (.int (-1)) ∧ fd12 Z h xa1 (.ref b2) ∧ h0.size ≤ xa1 ∧ h.size > xa1
theorem rm_au38 (G : GL l Z a0 zc dce kdce eed keed mroa mral mrul mrur) (F0 : fd2 Z h0 pa1 (.int pi1)) : M39 l Z 2 1 4 26 #[.ref pa1] h0 n0 [] [] (Q25 Z pi1 pa1 h0) := by
  refine mi B39 ef9 (hEW G) fun s X0 hsf0 n0le => ?_
  have l1 := F0.l
  refine o_new 3 X0 (w259 G) (w260 G) (w261 G) d39_0 rfl (by decide) (by decide) ?_
  intro _ h1 b1 X1 _ l1 E1 A1 D1 _ _ _
  have f2 : fd12 Z h1 b1 .null := D1 (Or.inr (w267 G)) fd_7
  have f3 : fd13 Z h1 b1 (.int 0) := D1 (Or.inl (w270 G)) fd_2
  have f4 : fd14 Z h1 b1 (.int 0) := D1 (Or.inl (w274 G)) fd_2
  have f5 : fd15 Z h1 b1 (.int 0) := D1 (Or.inl (w285 G)) fd_2
  refine oD 4 X1 d39_3 rfl rfl <| oA 5 X1 d39_4 rfl rfl ?_
  have f6 := F0.ext E1
  refine mP 8 1 X1 (rm_au37 G A1 f5 f4 f3 f2 f6 (by omega)) (u34 G) all0 d39_5 rfl rfl rfl lr (by decide) (aR (by omega) all0) ?_
  rintro _ _ _ _ X7 ⟨rfl, q8, q9, q10, q11, q12⟩ _ _ _
  refine sk [.ref b1] rfl ?_
  exact oR X7 d39_8 rfl rfl rfl (by decide) (by decide) (fun _ CC => ⟨b1, rfl, q8, q9, q10, q11, q12, by omega⟩)
theorem rm_au39 (G : GL l Z a0 zc dce kdce eed keed mroa mral mrul mrur) (F0 : fd15 Z h0 pa1 (.int pi102)) (F1 : fd12 Z h0 pa1 (.ref pa2)) (F2 : fd4 Z h0 pa2 (.int pi2)) (pc_0 : pi102 = pi2) : M41 l Z 0 0 0 0 #[.ref pa1] h0 n0 [] [] (Q6 Z  h0) := by
  refine mi B41 ef9 (hEW G) fun s X0 hsf0 n0le => ?_
  have := F0.l
  have := F2.l
  refine oA 1 X0 d41_0 rfl rfl <| oF 4 X0 (w284 G) Via.refl F0 d41_1 rfl ?_
  intro _ X2
  refine oA 5 X2 d41_4 rfl rfl <| oF 8 X2 (w266 G) Via.refl F1 d41_5 rfl ?_
  intro _ X4
  refine o_getFN 11 X4 (w286 G) Via.refl F2 d41_8 rfl ?_
  intro _ X6
  refine oY 18 X6 d41_11 (by decide) (teq pc_0).1 <| oc 19 (v := 0) X6 d41_18 rfl (by decide) ?_
  exact o_nret (y := (0 : Int32)) (t := .boolean) X6 d41_19 rfl (by decide) (by simp) (by decide) (by decide) (fun _ CC => rfl)
def Q26 (Z : State) (h0 : Heap) (v : Option Value) (h : Heap) (vm : Vm) : Prop := ∃ (xa1 : Addr) (xa2 : Addr) (xk1 : ClassId), v = some (.ref xa1) ∧ ex1 Z h xa1 ∧ fd1 Z h xa1 (.int 0) ∧ fd0 Z h xa1 (.ref xa2) ∧ av0 Z h xa2 xk1 2 [.int 91, .int 93] ∧ h.size > xa1 ∧ h.size > xa2
theorem rm_au40 (G : GL l Z a0 zc dce kdce eed keed mroa mral mrul mrur) (F0 : ex2 Z h0 pa1) (F1 : fd2 Z h0 pa1 (.int pi1)) (F2 : fd4 Z h0 pa1 (.int pi2)) (pc_0 : (0 : Int32) = pi2) : M38 l Z 3 3 16 38 #[.ref pa1] h0 n0 [] [] (Q26 Z  h0) := by
  have hw := G.1
  refine mi B38 ef17 (hEW G) fun s X0 hsf0 n0le => ?_
  have := F0.l
  refine oA 1 X0 d38_0 rfl rfl <| mV 4 0 X0 F0 (rm_au38 G F1) (u35 G) all0 d38_1 rfl rfl rfl lr (by decide) all0 ?_
  rintro _ _ _ _ X1 ⟨xa1_2, rfl, q3, q4, _, _, q7, _⟩ K1 _ _
  refine sk [.ref xa1_2] rfl <| oV 5 (l' := #[rr pa1, rr xa1_2, uu, uu]) X1 d38_4 rfl rfl rfl <| oA 6 X1 d38_5 rfl rfl ?_
  have f9 := F2.k0 K1
  refine mF 11 0 X1 q3 (rm_au39 G q4 q7 f9 pc_0) (u36 G) all0 d38_6 rfl rfl rfl lr (by decide) all0 ?_
  rintro _ _ _ _ X10 rfl K10 _ _
  refine sk [i0] rfl <| on 14 X10 d38_11 rfl ((if0 _ _).trans (teq (by decide)).2) <| o_ldcC 16 (n := 8) (vs := own_bs ([91, 93] : List Int32)) (z := (2 : Int32)) X10 (w287 G) (hws_str hw) (by decide) ⟨by decide, rfl⟩ (by decide) (by decide) d38_14 rfl (by decide) (by decide) (by decide) (by decide) ?_
  intro a11 b11 kb11 _ h11 _ X11 E11 _ Es11 Cs11 Vs11 As11 SF11
  have lta11 : h11.size > a11 := Es11.lt
  have ltb11 : h11.size > b11 := As11.lt
  have := E11.1
  have Bs11 : av0 Z h11 b11 kb11 2 [.int 91, .int 93] := As11
  have f13 := ((F0.keep K1).keep K10).ext E11
  have := own_nes (SF11 pa1 (sx X11 f13 nc1))
  have f15 := (q3.keep K10).ext E11
  have := own_nes (SF11 xa1_2 (sx X11 f15 nc6))
  exact oR X11 d38_16 rfl rfl rfl (by decide) (by decide) (fun _ CC => ⟨a11, b11, kb11, rfl, Es11, Cs11, Vs11, Bs11, by omega⟩)
theorem rm_au41 (G : GL l Z a0 zc dce kdce eed keed mroa mral mrul mrur) (F0 : fd7 Z h0 pa1 (.ref pa2)) (F1 : ex2 Z h0 pa2) (F2 : fd2 Z h0 pa2 (.int pi1)) (F3 : fd4 Z h0 pa2 (.int pi2)) (pc_0 : (0 : Int32) = pi2) : M37 l Z 4 3 16 53 #[.ref pa1] h0 n0 [] [] (Q26 Z  h0) := by
  refine mi B37 ef9 (hEW G) fun s X0 hsf0 n0le => ?_
  have := F0.l
  have := F1.l
  refine oA 1 X0 d37_0 rfl rfl <| oF 4 X0 (w157 G) Via.refl F0 d37_1 rfl ?_
  intro _ X2
  refine m_ifaceUp 9 0 X2 F1 (rm_au40 G F1 F2 F3 pc_0) (u37 G) all0 d37_4 rfl rfl rfl lr (by decide) all0 ?_
  rintro _ _ _ _ X3 ⟨xa1_4, xa2_5, xk1_6, rfl, q7, q8, q9, q10, _⟩ _ _ _
  refine sk [.ref xa1_4] rfl ?_
  exact oR X3 d37_9 rfl rfl rfl (by decide) (by decide) (fun _ CC => ⟨xa1_4, xa2_5, xk1_6, rfl, q7, q8, q9, q10, by omega⟩)
theorem rm_au42 (G : GL l Z a0 zc dce kdce eed keed mroa mral mrul mrur) (F0 : ex4 Z h0 pa1) (F1 : fd7 Z h0 pa1 (.ref pa2)) (F2 : ex2 Z h0 pa2) (F3 : fd2 Z h0 pa2 (.int pi1)) (F4 : fd4 Z h0 pa2 (.int pi2)) (pc_0 : (0 : Int32) = pi2) : M36 l Z 5 3 16 65 #[.ref pa1] h0 n0 [] [] (Q26 Z  h0) := by
  refine mi B36 ef9 (hEW G) fun s X0 hsf0 n0le => ?_
  have := F0.l
  have := F2.l
  refine oA 1 X0 d36_0 rfl rfl <| ifnonnullYesJ 10 X0 d36_1 (by decide) <| oA 11 X0 d36_10 rfl rfl <| mV 14 0 X0 F0 (rm_au41 G F1 F2 F3 F4 pc_0) (u38 G) all0 d36_11 rfl rfl rfl lr (by decide) all0 ?_
  rintro _ _ _ _ X1 ⟨xa1_2, xa2_3, xk1_4, rfl, q5, q6, q7, q8, _⟩ _ _ _
  refine sk [.ref xa1_2] rfl ?_
  exact oR X1 d36_14 rfl rfl rfl (by decide) (by decide) (fun _ CC => ⟨xa1_2, xa2_3, xk1_4, rfl, q5, q6, q7, q8, by omega⟩)
def Q27 (Z : State) (h0 : Heap) (v : Option Value) (h : Heap) (vm : Vm) : Prop := v = some (.int 2)
theorem rm_au43 (G : GL l Z a0 zc dce kdce eed keed mroa mral mrul mrur) (F0 : ex1 Z h0 pa1) (F1 : fd1 Z h0 pa1 (.int 0)) (F2 : fd0 Z h0 pa1 (.ref pa2)) (F3 : av0 Z h0 pa2 pk1 2 ps_pa2) : M29 l Z 1 0 0 13 #[.ref pa1] h0 n0 [] [] (Q27 Z  h0) := by
  refine mi B29 ef9 (hEW G) fun s X0 hsf0 n0le => ?_
  have := F0.l
  have := F3.l
  refine oA 1 X0 d29_0 rfl rfl <| oF 4 X0 (w22 G) Via.refl F2 d29_1 rfl ?_
  intro _ X2
  refine oL 5 X2 F3 d29_4 rfl <| oA 6 X2 d29_5 rfl rfl <| mV 9 1 X2 F0 (rm_au25 G F1) (u25 G) all0 d29_6 rfl rfl rfl lr (by decide) all0 ?_
  rintro _ _ _ _ X3 rfl _ _ _
  refine sk [i0, .int 2] rfl <| o_ishr 10 (v := 2) X3 d29_9 rfl (by decide) ?_
  exact o_iret X3 d29_10 rfl (by decide) (by decide) (fun _ CC => rfl)
def Q28 (Z : State) (b1 : Addr) (b2 : ClassId) (b3 b4 b5 : Int32) (h0 : Heap) (v : Option Value) (h : Heap) (vm : Vm) : Prop := v = none ∧ av0 Z h b1 b2 16 [.int b3, .int 32, .int b4, .int b5, i0, i0, i0, i0, i0, i0, i0, i0, i0, i0, i0, i0] ∧ ex0 Z h b1
theorem rm_au45 (G : GL l Z a0 zc dce kdce eed keed mroa mral mrul mrur) (F0 : ex1 Z h0 pa1) (F1 : fd1 Z h0 pa1 (.int 0)) (F2 : fd0 Z h0 pa1 (.ref pa3)) (F3 : av0 Z h0 pa2 pk1 16 [.int pi1, .int 32, i0, i0, i0, i0, i0, i0, i0, i0, i0, i0, i0, i0, i0, i0]) (F4 : ex0 Z h0 pa2) (F5 : av0 Z h0 pa3 pk2 2 [.int pi2, .int pi3]) (ne : NE pa1 pa2 ∧ NE pa2 pa3 ∧ n0 ≤ pa2) : M34 l Z 1 0 0 40 #[.ref pa1, .ref pa2, .int 2, i0] h0 n0 [pa2] [pa2] (Q28 Z pa2 pk1 pi1 pi2 pi3 h0) := by
  refine mi B34 ef16 (hEW G) fun s X0 hsf0 n0le => ?_
  have := F0.l
  have := F3.l
  have := F5.l
  have sf_pa2 := hsf0 pa2 (by simp)
  refine oA 1 X0 d34_0 rfl rfl <| mV 4 0 X0 F0 (rm_au25 G F1) (u25 G) all0 d34_1 rfl rfl rfl lr (by decide) all0 ?_
  rintro _ _ _ _ X1 rfl K1 _ C1
  refine sk [i0] rfl <| oI 5 X1 d34_4 rfl rfl <| oN 8 X1 d34_5 rfl (teq (by decide)).2 <| oA 9 X1 d34_8 rfl rfl ?_
  have f2 := F2.k0 K1
  refine oF 12 X1 (w22 G) Via.refl f2 d34_9 rfl ?_
  intro _ X4
  refine oc 13 (v := 0) X4 d34_12 rfl (by decide) <| oA 14 X4 d34_13 rfl rfl <| oI 15 X4 d34_14 rfl rfl <| oI 16 X4 d34_15 rfl rfl <| o_ishl 17 (v := 2) X4 d34_16 rfl (by decide) <| oA 18 X4 d34_17 rfl rfl <| oF 21 X4 (w22 G) Via.refl f2 d34_18 rfl ?_
  intro _ X6
  have f7 := F5.k0 K1
  refine oL 22 X6 f7 d34_21 rfl ?_
  have f8 := F3.k0 K1
  have f9 := C1.safe (own_lt (by omega)) sf_pa2
  refine o_cp 25 (us := [.int pi2, .int pi3]) (vr := [.int pi1, .int 32, .int pi2, .int pi3, i0, i0, i0, i0, i0, i0, i0, i0, i0, i0, i0, i0]) (W := 0) X6 (w229 G) (w119 G) (w117 G) (w118 G) f7 f8 (Or.inl ⟨rfl, rfl⟩) (by decide) (by decide) (by decide) (by decide) (by decide) rfl (Nat.le_of_ble_eq_true rfl) rfl d34_22 rfl rfl (by decide) (Nat.le_of_eq rfl) (by decide) (by omega) (Or.inl (by simp)) f9 ?_
  intro _ _ X10 K10 _ V10
  have := K10.1
  refine og 43 X10 d34_25 (by decide) ?_
  have f11 := (F4.keep K1).keep K10
  exact oz X10 d34_43 rfl (by decide) (by decide) (fun _ CC => ⟨rfl, V10, f11⟩)
theorem rm_au46 (G : GL l Z a0 zc dce kdce eed keed mroa mral mrul mrur) (F0 : ex6 Z h0 pa1) (F1 : fd10 Z h0 pa1 (.int 0)) (F2 : fd9 Z h0 pa1 (.ref pa3)) (F3 : ex1 Z h0 pa2) (F4 : fd1 Z h0 pa2 (.int 0)) (F5 : fd0 Z h0 pa2 (.ref pa4)) (F6 : av0 Z h0 pa3 pk1 16 [.int pi1, .int 32, i0, i0, i0, i0, i0, i0, i0, i0, i0, i0, i0, i0, i0, i0]) (F7 : ex0 Z h0 pa3) (F8 : av0 Z h0 pa4 pk2 2 [.int pi2, .int pi3]) (ne : NE pa1 pa3 ∧ NE pa2 pa3 ∧ NE pa3 pa4 ∧ n0 ≤ pa3) : M32 l Z 2 0 0 55 #[.ref pa1, .int 2, .ref pa2] h0 n0 [pa3] [pa3] (Q28 Z pa3 pk1 pi1 pi2 pi3 h0) := by
  refine mi B32 ef15 (hEW G) fun s X0 hsf0 n0le => ?_
  have := F0.l
  have := F3.l
  have := F6.l
  have := F8.l
  have sf_pa3 := hsf0 pa3 (by simp)
  refine oA 1 X0 d32_0 rfl rfl <| oA 2 X0 d32_1 rfl rfl <| mV 5 0 X0 F0 (rm_au28 G F1 F3 F4) (u29 G) all0 d32_2 rfl rfl rfl lr (by decide) all0 ?_
  rintro _ _ _ _ X1 rfl K1 _ C1
  refine sk [] rfl <| oA 6 X1 d32_5 rfl rfl <| oA 7 X1 d32_6 rfl rfl ?_
  have f2 := F2.k0 K1
  refine oF 10 X1 (w182 G) Via.refl f2 d32_7 rfl ?_
  intro _ X4
  refine oI 11 X4 d32_10 rfl rfl <| oA 12 X4 d32_11 rfl rfl ?_
  have f5 := F1.k0 K1
  refine oF 15 X4 (w184 G) Via.refl f5 d32_12 rfl ?_
  intro _ X7
  have f8 := F3.keep K1
  have f9 := F4.k0 K1
  have f10 := F5.k0 K1
  have f11 := F6.k0 K1
  have f12 := F7.keep K1
  have f13 := F8.k0 K1
  have f14 := C1.safe (own_lt (by omega)) sf_pa3
  refine mV 18 0 X7 f8 (rm_au45 G f8 f9 f10 f11 f12 f13 (by omega)) (u30 G) (sS (by omega) f14 all0) d32_15 rfl rfl rfl lr (by decide) (aI (by omega) (by simp) all0) ?_
  rintro _ _ _ _ X15 ⟨rfl, q16, q17⟩ _ _ _
  refine sk [] rfl ?_
  exact oz X15 d32_18 rfl (by decide) (by decide) (fun _ CC => ⟨rfl, q16, q17⟩)
def Q29 (Z : State) (b1 b2 : Addr) (b3 : ClassId) (b4 b5 b6 : Int32) (h0 : Heap) (v : Option Value) (h : Heap) (vm : Vm) : Prop := v = some (.ref b1) ∧ ex6 Z h b1 ∧ fd10 Z h b1 (.int 0) ∧ fd11 Z h b1 (.int 4) ∧ fd9 Z h b1 (.ref b2) ∧ av0 Z h b2 b3 16 [.int b4, .int 32, .int b5, .int b6, i0, i0, i0, i0, i0, i0, i0, i0, i0, i0, i0, i0] ∧ ex0 Z h b2
theorem rm_au47 (G : GL l Z a0 zc dce kdce eed keed mroa mral mrul mrur) (F0 : ex6 Z h0 pa1) (F1 : fd10 Z h0 pa1 (.int 0)) (F2 : fd11 Z h0 pa1 (.int 2)) (F3 : fd9 Z h0 pa1 (.ref pa3)) (F4 : ex1 Z h0 pa2) (F5 : fd1 Z h0 pa2 (.int 0)) (F6 : fd0 Z h0 pa2 (.ref pa4)) (F7 : av0 Z h0 pa3 pk1 16 [.int pi1, .int 32, i0, i0, i0, i0, i0, i0, i0, i0, i0, i0, i0, i0, i0, i0]) (F8 : ex0 Z h0 pa3) (F9 : av0 Z h0 pa4 pk2 2 [.int pi2, .int pi3]) (ne : NE pa1 pa2 ∧ NE pa1 pa3 ∧ NE pa1 pa4 ∧ NE pa2 pa3 ∧ NE pa3 pa4 ∧ n0 ≤ pa1 ∧ n0 ≤ pa3) : M28 l Z 3 0 0 69 #[.ref pa1, .ref pa2] h0 n0 [pa1, pa3] [pa3] (Q29 Z pa1 pa3 pk1 pi1 pi2 pi3 h0) := by
  refine mi B28 ef11 (hEW G) fun s X0 hsf0 n0le => ?_
  have := F0.l
  have := F4.l
  have := F7.l
  have := F9.l
  have sf_pa3 := hsf0 pa3 (by simp)
  refine oA 1 X0 d28_0 rfl rfl <| ifnonnullYesJ 9 X0 d28_1 (by decide) <| oA 10 X0 d28_9 rfl rfl <| mV 13 0 X0 F4 (rm_au43 G F4 F5 F6 F9) (u26 G) all0 d28_10 rfl rfl rfl lr (by decide) all0 ?_
  rintro _ _ _ _ X1 rfl K1 _ C1
  refine sk [.int 2] rfl <| oT 14 (l' := #[rr pa1, rr pa2, ii 2]) X1 d28_13 rfl rfl <| oA 15 X1 d28_14 rfl rfl <| oA 16 X1 d28_15 rfl rfl ?_
  have f2 := F2.k0 K1
  refine oF 19 X1 (w206 G) Via.refl f2 d28_16 rfl ?_
  intro _ X4
  refine oI 20 X4 d28_19 rfl rfl <| o_iadd 21 (v := 4) X4 d28_20 rfl (by decide) ?_
  have f5 := F1.k0 K1
  have f6 := F3.k0 K1
  have f7 := F7.k0 K1
  have f8 := F0.keep K1
  refine mV 24 0 X4 f8 (rm_au27 G f5 f6 f7 (by decide)) (u27 G) all0 d28_21 rfl rfl rfl lr (by decide) all0 ?_
  rintro _ _ _ _ X9 rfl K9 _ C9
  refine sk [] rfl <| oA 25 X9 d28_24 rfl rfl <| oA 26 X9 d28_25 rfl rfl ?_
  have f10 := f2.k0 K9
  refine oF 29 X9 (w206 G) Via.refl f10 d28_26 rfl ?_
  intro _ X12
  refine oA 30 X12 d28_29 rfl rfl ?_
  have f13 := f8.keep K9
  have f14 := f5.k0 K9
  have f15 := f6.k0 K9
  have f16 := (F4.keep K1).keep K9
  have f17 := (F5.k0 K1).k0 K9
  have f18 := (F6.k0 K1).k0 K9
  have f19 := f7.k0 K9
  have f20 := (F8.keep K1).keep K9
  have f21 := (F9.k0 K1).k0 K9
  have f22 := C9.safe (own_lt (by omega)) (C1.safe (own_lt (by omega)) sf_pa3)
  refine mV 33 0 X12 f13 (rm_au46 G f13 f14 f15 f16 f17 f18 f19 f20 f21 (by omega)) (u31 G) (sS (by omega) f22 all0) d28_30 rfl rfl rfl lr (by decide) (aI (by omega) (by simp) all0) ?_
  rintro _ _ _ _ X23 ⟨rfl, q24, q25⟩ K23 _ _
  refine sk [] rfl <| oA 34 X23 d28_33 rfl rfl <| oD 35 X23 d28_34 rfl rfl ?_
  have f26 := f10.k1 K23 (by omega)
  refine oF 38 X23 (w206 G) Via.refl f26 d28_35 rfl ?_
  intro _ X28
  refine oI 39 X28 d28_38 rfl rfl <| o_iadd 40 (v := 4) X28 d28_39 rfl (by decide) ?_
  have f29 := f13.keep K23
  refine oP 43 (v' := (.int 4)) X28 (w206 G) Via.refl f26 f29 (Or.inl (w207 G)) (w169 G) fd_2 rfl rfl d28_40 rfl (by omega) (Or.inl (by simp)) (sx X28 f29 nc5) ?_
  intro _ _ X30 W30 _
  have := W30.size
  have f31 := f26.same W30
  refine oA 44 X30 d28_43 rfl rfl ?_
  have f32 := f29.wr W30
  have f33 := (f14.k1 K23 (by omega)).other W30 (Or.inr (sn16 G))
  have f34 := (f15.k1 K23 (by omega)).other W30 (Or.inr (sn17 G))
  have f35 := q24.oth W30 (by omega)
  have f36 := q25.wr W30
  exact oR X30 d28_44 rfl rfl rfl (by decide) (by decide) (fun _ CC => ⟨rfl, f32, f33, f31, f34, f35, f36⟩)
theorem rm_au48 (G : GL l Z a0 zc dce kdce eed keed mroa mral mrul mrur) (F0 : ex6 Z h0 pa1) (F1 : fd10 Z h0 pa1 (.int 0)) (F2 : fd11 Z h0 pa1 (.int 2)) (F3 : fd9 Z h0 pa1 (.ref pa3)) (F4 : ex1 Z h0 pa2) (F5 : fd1 Z h0 pa2 (.int 0)) (F6 : fd0 Z h0 pa2 (.ref pa4)) (F7 : av0 Z h0 pa3 pk1 16 [.int pi1, .int 32, i0, i0, i0, i0, i0, i0, i0, i0, i0, i0, i0, i0, i0, i0]) (F8 : ex0 Z h0 pa3) (F9 : av0 Z h0 pa4 pk2 2 [.int pi100, .int pi101]) (ne : NE pa1 pa2 ∧ NE pa1 pa3 ∧ NE pa1 pa4 ∧ NE pa2 pa3 ∧ NE pa3 pa4 ∧ n0 ≤ pa1 ∧ n0 ≤ pa3) : M27 l Z 4 0 0 83 #[.ref pa1, .ref pa2] h0 n0 [pa1, pa3] [pa3] (Q29 Z pa1 pa3 pk1 pi1 pi100 pi101 h0) := by
  refine mi B27 ef4 (hEW G) fun s X0 hsf0 n0le => ?_
  have := F0.l
  have := F4.l
  have := F7.l
  have := F9.l
  have sf_pa3 := hsf0 pa3 (by simp)
  refine oA 1 X0 d27_0 rfl rfl <| oA 2 X0 d27_1 rfl rfl <| mU 5 0 X0 F0 (rm_au47 G F0 F1 F2 F3 F4 F5 F6 F7 F8 F9 (by omega)) (u32 G) (sS (by omega) sf_pa3 all0) d27_2 rfl rfl rfl lr (by decide) (aI (by omega) (by simp) (aI (by omega) (by simp) all0)) ?_
  rintro _ _ _ _ X1 ⟨rfl, q2, q3, q4, q5, q6, q7⟩ _ _ _
  refine sk [.ref pa1] rfl <| o_pop 6 X1 d27_5 rfl rfl <| oA 7 X1 d27_6 rfl rfl ?_
  exact oR X1 d27_7 rfl rfl rfl (by decide) (by decide) (fun _ CC => ⟨rfl, q2, q3, q4, q5, q6, q7⟩)
def Q30 (Z : State) (b1 b2 : Addr) (b3 : ClassId) (b4 : Int32) (h0 : Heap) (v : Option Value) (h : Heap) (vm : Vm) : Prop := v = some (.ref b1) ∧ ex6 Z h b1 ∧ fd10 Z h b1 (.int 0) ∧ fd11 Z h b1 (.int 4) ∧ fd9 Z h b1 (.ref b2) ∧ av0 Z h b2 b3 16 [.int b4, .int 32, .int 91, .int 93, i0, i0, i0, i0, i0, i0, i0, i0, i0, i0, i0, i0] ∧ ex0 Z h b2
theorem rm_au49 (G : GL l Z a0 zc dce kdce eed keed mroa mral mrul mrur) (F0 : ex6 Z h0 pa1) (F1 : fd10 Z h0 pa1 (.int 0)) (F2 : fd11 Z h0 pa1 (.int 2)) (F3 : fd9 Z h0 pa1 (.ref pa3)) (F4 : ex4 Z h0 pa2) (F5 : fd7 Z h0 pa2 (.ref pa4)) (F6 : av0 Z h0 pa3 pk1 16 [.int pi1, .int 32, i0, i0, i0, i0, i0, i0, i0, i0, i0, i0, i0, i0, i0, i0]) (F7 : ex0 Z h0 pa3) (F8 : ex2 Z h0 pa4) (F9 : fd2 Z h0 pa4 (.int 0)) (F10 : fd4 Z h0 pa4 (.int 0)) (ne : NE pa1 pa2 ∧ NE pa1 pa3 ∧ NE pa1 pa4 ∧ NE pa2 pa3 ∧ NE pa3 pa4 ∧ n0 ≤ pa1 ∧ n0 ≤ pa3) : M35 l Z 6 3 16 96 #[.ref pa1, .ref pa2] h0 n0 [pa1, pa3] [pa3] (Q30 Z pa1 pa3 pk1 pi1 h0) := by
  refine mi B35 ef4 (hEW G) fun s X0 hsf0 n0le => ?_
  have := F0.l
  have := F4.l
  have := F6.l
  have := F8.l
  have sf_pa3 := hsf0 pa3 (by simp)
  refine oA 1 X0 d35_0 rfl rfl <| oA 2 X0 d35_1 rfl rfl <| mS 5 1 X0 (rm_au42 G F4 F5 F8 F9 F10 (by decide)) (u39 G) all0 d35_2 rfl rfl rfl lr (by decide) all0 ?_
  rintro _ _ _ _ X1 ⟨xa1_2, _, _, rfl, q5, q6, q7, q8, _⟩ K1 _ C1
  refine sk [.ref xa1_2, .ref pa1] rfl ?_
  have f10 := F0.keep K1
  have f11 := F1.k0 K1
  have f12 := F2.k0 K1
  have f13 := F3.k0 K1
  have f14 := F6.k0 K1
  have f15 := F7.keep K1
  have := own_neC f10 q5 (by decide +kernel)
  have := own_neE f10 q8 (w169 G)
  have := own_neC q5 f15 (by decide +kernel)
  have := own_neA f14 q8 (by decide)
  have f20 := C1.safe (own_lt (by omega)) sf_pa3
  refine mV 8 0 X1 f10 (rm_au48 G f10 f11 f12 f13 q5 q6 q7 f14 f15 q8 (by omega)) (u40 G) (sS (by omega) f20 all0) d35_5 rfl rfl rfl lr (by decide) (aI (by omega) (by simp) (aI (by omega) (by simp) all0)) ?_
  rintro _ _ _ _ X21 ⟨rfl, q22, q23, q24, q25, q26, q27⟩ _ _ _
  refine sk [.ref pa1] rfl ?_
  exact oR X21 d35_8 rfl rfl rfl (by decide) (by decide) (fun _ CC => ⟨rfl, q22, q23, q24, q25, q26, q27⟩)
def Q31 (Z : State) (b1 : Addr) (h0 : Heap) (v : Option Value) (h : Heap) (vm : Vm) : Prop := v = some (.ref b1)
theorem rm_au50 (G : GL l Z a0 zc dce kdce eed keed mroa mral mrul mrur) (F0 : fd9 Z h0 pa1 (.ref pa2)) : M45 l Z 0 0 0 0 #[.ref pa1] h0 n0 [] [] (Q31 Z pa2 h0) := by
  refine mi B45 ef9 (hEW G) fun s X0 hsf0 n0le => ?_
  have := F0.l
  refine oA 1 X0 d45_0 rfl rfl <| oF 4 X0 (w182 G) Via.refl F0 d45_1 rfl ?_
  intro _ X2
  exact oR X2 d45_4 rfl rfl rfl (by decide) (by decide) (fun _ CC => rfl)
theorem rm_au51 (G : GL l Z a0 zc dce kdce eed keed mroa mral mrul mrur) (F0 : fd11 Z h0 pa1 (.int pi2)) : M47 l Z 0 0 0 0 #[.ref pa1] h0 n0 [] [] (Q12 Z pi2 h0) := by
  refine mi B47 ef9 (hEW G) fun s X0 hsf0 n0le => ?_
  have := F0.l
  refine oA 1 X0 d47_0 rfl rfl <| oF 4 X0 (w206 G) Via.refl F0 d47_1 rfl ?_
  intro _ X2
  exact o_iret X2 d47_4 rfl (by decide) (by decide) (fun _ CC => rfl)
theorem rm_au52 (G : GL l Z a0 zc dce kdce eed keed mroa mral mrul mrur) (F0 : ex6 Z h0 pa1) (F1 : fd11 Z h0 pa1 (.int pi2)) : M46 l Z 1 0 0 12 #[.ref pa1] h0 n0 [] [] (Q12 Z pi2 h0) := by
  refine mi B46 ef9 (hEW G) fun s X0 hsf0 n0le => ?_
  have := F0.l
  refine oA 1 X0 d46_0 rfl rfl <| mU 4 0 X0 F0 (rm_au51 G F1) (u43 G) all0 d46_1 rfl rfl rfl lr (by decide) all0 ?_
  rintro _ _ _ _ X1 rfl _ _ _
  refine sk [.int pi2] rfl ?_
  exact o_iret X1 d46_4 rfl (by decide) (by decide) (fun _ CC => rfl)
theorem rm_au53 (G : GL l Z a0 zc dce kdce eed keed mroa mral mrul mrur) (F0 : fd10 Z h0 pa1 (.int pi1)) (pc_0 : pi1 = (0 : Int32)) : M48 l Z 0 0 0 0 #[.ref pa1] h0 n0 [] [] (Q0 Z  h0) := by
  refine mi B48 ef9 (hEW G) fun s X0 hsf0 n0le => ?_
  have := F0.l
  refine oG 3 X0 (w181 G) Via.refl ((sg10 G).ext X0.old.2) d48_0 rfl ?_
  intro _ X2
  refine on 6 X2 d48_3 rfl ((if0 _ _).trans (feq (hzc G)).1) <| oA 7 X2 d48_6 rfl rfl <| oF 10 X2 (w184 G) Via.refl F0 d48_7 rfl ?_
  intro _ X4
  refine on 13 X4 d48_10 rfl ((if0 _ _).trans (teq pc_0).2) <| oc 14 (v := 1) X4 d48_13 rfl (by decide) <| og 18 X4 d48_14 (by decide) ?_
  exact o_nret (y := (1 : Int32)) (t := .boolean) X4 d48_18 rfl (by decide) (by simp) (by decide) (by decide) (fun _ CC => rfl)
theorem rm_au54 (G : GL l Z a0 zc dce kdce eed keed mroa mral mrul mrur) (pc_0 : ¬ pi2 < pi1) : M51 l Z 0 0 0 0 #[.int pi1, .int pi2] h0 n0 [] [] (Q9 Z  h0) := by
  refine mi B51 ef13 (hEW G) fun s X0 hsf0 n0le => ?_
  refine oI 1 X0 d51_0 rfl rfl <| oI 2 X0 d51_1 rfl rfl <| oY 37 X0 d51_2 (by decide) (flt pc_0).2.1 ?_
  exact oz X0 d51_37 rfl (by decide) (by decide) (fun _ CC => rfl)
theorem rm_au55 (G : GL l Z a0 zc dce kdce eed keed mroa mral mrul mrur) (pc_0 : pi101 < pi100) : M19 l Z 0 0 0 0 #[.int pi100, .int pi101] h0 n0 [] [] (Q12 Z pi101 h0) := by
  refine mi B19 ef13 (hEW G) fun s X0 hsf0 n0le => ?_
  refine oI 1 X0 d19_0 rfl rfl <| oI 2 X0 d19_1 rfl rfl <| oY 9 X0 d19_2 (by decide) (tlt pc_0).2.2.1 <| oI 10 X0 d19_9 rfl rfl ?_
  exact o_iret X0 d19_10 rfl (by decide) (by decide) (fun _ CC => rfl)
def Q32 (Z : State) (b1 : Int32) (h0 : Heap) (v : Option Value) (h : Heap) (vm : Vm) : Prop := ∃ (xa1 : Addr) (xk1 : ClassId), v = some (.ref xa1) ∧ av0 Z h xa1 xk1 4 [.int b1, .int 32, .int 91, .int 93] ∧ ex0 Z h xa1 ∧ Safe Z EL0 vm h xa1 ∧ h0.size ≤ xa1 ∧ h.size > xa1
theorem rm_au56 (G : GL l Z a0 zc dce kdce eed keed mroa mral mrul mrur) (F0 : av0 Z h0 pa1 pk1 16 [.int pi1, .int 32, .int 91, .int 93, i0, i0, i0, i0, i0, i0, i0, i0, i0, i0, i0, i0]) : M50 l Z 1 1 4 40 #[.ref pa1, i0, .int 4] h0 n0 [] [] (Q32 Z pi1 h0) := by
  refine mi B50 ef20 (hEW G) fun s X0 hsf0 n0le => ?_
  have := F0.l
  refine oI 1 X0 d50_0 rfl rfl <| oI 2 X0 d50_1 rfl rfl <| mS 5 0 X0 (rm_au54 G (by decide)) (u46 G) all0 d50_2 rfl rfl rfl lr (by decide) all0 ?_
  rintro _ _ _ _ X1 rfl K1 _ _
  refine sk [] rfl <| oI 6 X1 d50_5 rfl rfl <| oI 7 X1 d50_6 rfl rfl <| o_isub 8 (v := 4) X1 d50_7 rfl (by decide) <| oT 9 (l' := #[rr pa1, ii 0, ii 4, ii 4, uu]) X1 d50_8 rfl rfl <| oI 10 X1 d50_9 rfl rfl <| nP (aty := .byte) 12 4 X1 (w14 G) d50_10 rfl (by decide) had_byte ?_
  intro _ h2 b2 k2 X2 _ _ E2 V2 A2 _ S2
  have V3 : av0 Z h2 b2 k2 4 [i0, i0, i0, i0] := V2.pad (pad_rep [] (.int (0 : Int32)) 4)
  refine oU 14 (l' := #[rr pa1, ii 0, ii 4, ii 4, rr b2]) X2 d50_12 rfl rfl rfl <| oA 15 X2 d50_14 rfl rfl <| oI 16 X2 d50_15 rfl rfl <| oa 18 X2 d50_16 rfl rfl <| oc 19 (v := 0) X2 d50_18 rfl (by decide) <| oA 20 X2 d50_19 rfl rfl ?_
  have f4 := (F0.k0 K1).ext E2
  refine oL 21 X2 f4 d50_20 rfl <| oI 22 X2 d50_21 rfl rfl <| o_isub 23 (v := 16) X2 d50_22 rfl (by decide) <| oI 24 X2 d50_23 rfl rfl <| mS 27 4 X2 (rm_au55 G (by decide)) (u13 G) all0 d50_24 rfl rfl rfl lr (by decide) all0 ?_
  rintro _ _ _ _ X5 rfl K5 _ C5
  refine sk [.int 4, i0, .ref b2, i0, .ref pa1] rfl ?_
  have f6 := f4.k0 K5
  have f7 := V3.k0 K5
  have f8 := C5.safe (own_lt (by omega)) S2
  refine o_cp 30 (us := [.int pi1, .int 32, .int 91, .int 93]) (vr := [.int pi1, .int 32, .int 91, .int 93]) (W := 0) X5 (w116 G) (w119 G) (w117 G) (w118 G) f6 f7 (Or.inl ⟨rfl, rfl⟩) (by decide) (by decide) (by decide) (by decide) (by decide) rfl (Nat.le_of_ble_eq_true rfl) rfl d50_27 rfl rfl (by decide) (Nat.le_of_eq rfl) (by decide) (by omega) (Or.inr (by omega)) f8 ?_
  intro _ _ X9 K9 C9 V9
  have := K9.1
  refine oa 32 X9 d50_30 rfl rfl ?_
  have f10 := (A2.keep K5).keep K9
  have f11 := C9.safe (own_lt (by omega)) f8
  exact oR X9 d50_32 rfl rfl rfl (by decide) (by decide) (fun _ CC => ⟨b2, k2, rfl, V9, f10, (CC.safe (own_lt (by omega)) f11), by omega⟩)
theorem rm_au57 (G : GL l Z a0 zc dce kdce eed keed mroa mral mrul mrur) (F0 : av0 Z h0 pa1 pk1 16 [.int pi1, .int 32, .int 91, .int 93, i0, i0, i0, i0, i0, i0, i0, i0, i0, i0, i0, i0]) : M49 l Z 2 1 4 56 #[.ref pa1, i0, .int 4] h0 n0 [] [] (Q32 Z pi1 h0) := by
  refine mi B49 ef19 (hEW G) fun s X0 hsf0 n0le => ?_
  have := F0.l
  refine oI 1 X0 d49_0 rfl rfl <| on 4 X0 d49_1 rfl ((if0 _ _).trans (teq (by decide)).2) <| oI 5 X0 d49_4 rfl rfl <| oA 6 X0 d49_5 rfl rfl <| oL 7 X0 F0 d49_6 rfl <| oN 10 X0 d49_7 rfl (feq (by decide)).1 <| oA 11 X0 d49_10 rfl rfl <| oI 12 X0 d49_11 rfl rfl <| oI 13 X0 d49_12 rfl rfl <| mS 16 0 X0 (rm_au56 G F0) (u47 G) all0 d49_13 rfl rfl rfl lr (by decide) all0 ?_
  rintro _ _ _ _ X1 ⟨xa1_2, xk1_3, rfl, q4, q5, q6, _⟩ _ _ _
  refine sk [.ref xa1_2] rfl ?_
  exact oR X1 d49_16 rfl rfl rfl (by decide) (by decide) (fun _ CC => ⟨xa1_2, xk1_3, rfl, q4, q5, (CC.safe (own_lt (by omega)) q6), by omega⟩)
def Q33 (Z : State) (b1 : Addr) (b2 : Int32) (h0 : Heap) (v : Option Value) (h : Heap) (vm : Vm) : Prop := ∃ (xa1 : Addr) (xk1 : ClassId), v = none ∧ ex1 Z h b1 ∧ fd1 Z h b1 (.int 0) ∧ fd0 Z h b1 (.ref xa1) ∧ av0 Z h xa1 xk1 4 [.int b2, .int 32, .int 91, .int 93] ∧ ex0 Z h xa1 ∧ Safe Z EL0 vm h xa1 ∧ h0.size ≤ xa1 ∧ h.size > xa1
theorem rm_au58 (G : GL l Z a0 zc dce kdce eed keed mroa mral mrul mrur) (F0 : ex1 Z h0 pa1) (F1 : fd1 Z h0 pa1 (.int 0)) (F2 : fd0 Z h0 pa1 .null) (F3 : ex6 Z h0 pa2) (F4 : fd10 Z h0 pa2 (.int 0)) (F5 : fd11 Z h0 pa2 (.int 4)) (F6 : fd9 Z h0 pa2 (.ref pa3)) (F7 : av0 Z h0 pa3 pk1 16 [.int pi1, .int 32, .int 91, .int 93, i0, i0, i0, i0, i0, i0, i0, i0, i0, i0, i0, i0]) (ne : NE pa1 pa2 ∧ NE pa1 pa3 ∧ n0 ≤ pa1) : M44 l Z 3 1 4 71 #[.ref pa1, .ref pa2, .null] h0 n0 [pa1] [pa1] (Q33 Z pa1 pi1 h0) := by
  refine mi B44 ef18 (hEW G) fun s X0 hsf0 n0le => ?_
  have := F0.l
  have := F3.l
  have := F7.l
  have sf_pa1 := hsf0 pa1 (by simp)
  refine oA 1 X0 d44_0 rfl rfl <| o_initO 4 (W := 0) X0 (w19 G) (w20 G) (w21 G) rfl (by decide) (Nat.le_of_eq rfl) (by decide) d44_1 rfl ?_
  intro _ X2
  refine oA 5 X2 d44_4 rfl rfl <| mV 8 0 X2 F3 (rm_au50 G F6) (u42 G) all0 d44_5 rfl rfl rfl lr (by decide) all0 ?_
  rintro _ _ _ _ X3 rfl K3 _ C3
  refine sk [.ref pa3] rfl <| oV 9 (l' := #[rr pa1, rr pa2, .val .null, rr pa3, uu]) X3 d44_8 rfl rfl rfl <| oA 10 X3 d44_9 rfl rfl ?_
  have f4 := F3.keep K3
  have f5 := F5.k0 K3
  refine mV 13 0 X3 f4 (rm_au52 G f4 f5) (u44 G) all0 d44_10 rfl rfl rfl lr (by decide) all0 ?_
  rintro _ _ _ _ X6 rfl K6 _ C6
  refine sk [.int 4] rfl <| oS 15 (l' := #[rr pa1, rr pa2, .val .null, rr pa3, ii 4]) X6 d44_13 rfl rfl <| oA 16 X6 d44_15 rfl rfl ?_
  have f7 := (F4.k0 K3).k0 K6
  have f8 := f4.keep K6
  refine mV 19 0 X6 f8 (rm_au53 G f7 (by decide)) (u45 G) all0 d44_16 rfl rfl rfl lr (by decide) all0 ?_
  rintro _ _ _ _ X9 rfl K9 _ C9
  refine sk [.int 1] rfl <| on 22 X9 d44_19 rfl ((if0 _ _).trans (feq (by decide)).1) <| oA 23 X9 d44_22 rfl rfl <| oc 24 (v := 0) X9 d44_23 rfl (by decide) ?_
  have f10 := ((F1.k0 K3).k0 K6).k0 K9
  have f11 := ((F0.keep K3).keep K6).keep K9
  have f13 := C9.safe (own_lt (by omega)) (C6.safe (own_lt (by omega)) (C3.safe (own_lt (by omega)) sf_pa1))
  refine oP 27 (v' := (.int 0)) X9 (w24 G) Via.refl f10 f11 (Or.inr ⟨(w25 G), rfl, rfl⟩) (w10 G) fd_1 rfl rfl d44_24 rfl (by omega) (Or.inl (by simp)) f13 ?_
  intro _ _ X12 W12 C12
  have := W12.size
  have f14 := f10.same W12
  refine oA 28 X12 d44_27 rfl rfl <| oA 29 X12 d44_28 rfl rfl <| oc 30 (v := 0) X12 d44_29 rfl (by decide) <| oi 32 X12 d44_30 rfl rfl ?_
  have f15 := (((F7.k0 K3).k0 K6).k0 K9).oth W12 (by omega)
  refine mS 35 1 X12 (rm_au57 G f15) (u48 G) all0 d44_32 rfl rfl rfl lr (by decide) all0 ?_
  rintro _ _ _ _ X16 ⟨xa1_17, xk1_18, rfl, q19, q20, q21, _⟩ K16 _ C16
  refine sk [.ref xa1_17, .ref pa1] rfl ?_
  have f23 := ((((F2.k0 K3).k0 K6).k0 K9).other W12 (Or.inr (sn1 G))).k0 K16
  have f24 := (f11.wr W12).keep K16
  have f26 := C16.safe (own_lt (by omega)) (C12.safe (own_lt (by omega)) f13)
  refine oP 38 (v' := (.ref xa1_17)) X16 (w22 G) Via.refl f23 f24 (Or.inr ⟨(w23 G), rfl, rfl⟩) (w10 G) fd_0 rfl rfl d44_35 rfl (by omega) (Or.inl (by simp)) f26 ?_
  intro _ _ X25 W25 C25
  have := W25.size
  have f27 := f23.same W25
  refine og 97 X25 d44_38 (by decide) ?_
  have f28 := f24.wr W25
  have f29 := (f14.k0 K16).other W25 (Or.inr (sn0 G))
  have f30 := q19.oth W25 (by omega)
  have f31 := q20.wr W25
  have f32 := C25.safe (own_lt (by omega)) q21
  exact oz X25 d44_97 rfl (by decide) (by decide) (fun _ CC => ⟨xa1_17, xk1_18, rfl, f28, f29, f27, f30, f31, (CC.safe (own_lt (by omega)) f32), by omega⟩)
theorem rm_au59 (G : GL l Z a0 zc dce kdce eed keed mroa mral mrul mrur) (F0 : ex1 Z h0 pa1) (F1 : fd1 Z h0 pa1 (.int 0)) (F2 : fd0 Z h0 pa1 .null) (F3 : ex6 Z h0 pa2) (F4 : fd10 Z h0 pa2 (.int 0)) (F5 : fd11 Z h0 pa2 (.int 4)) (F6 : fd9 Z h0 pa2 (.ref pa3)) (F7 : av0 Z h0 pa3 pk1 16 [.int pi1, .int 32, .int 91, .int 93, i0, i0, i0, i0, i0, i0, i0, i0, i0, i0, i0, i0]) (ne : NE pa1 pa2 ∧ NE pa1 pa3 ∧ n0 ≤ pa1) : M43 l Z 4 1 4 87 #[.ref pa1, .ref pa2] h0 n0 [pa1] [pa1] (Q33 Z pa1 pi1 h0) := by
  refine mi B43 ef4 (hEW G) fun s X0 hsf0 n0le => ?_
  have := F0.l
  have := F3.l
  have := F7.l
  have sf_pa1 := hsf0 pa1 (by simp)
  refine oA 1 X0 d43_0 rfl rfl <| oA 2 X0 d43_1 rfl rfl <| o_aconstNull 3 X0 d43_2 rfl <| mP 6 0 X0 (rm_au58 G F0 F1 F2 F3 F4 F5 F6 F7 (by omega)) (u49 G) (sS (by omega) sf_pa1 all0) d43_3 rfl rfl rfl lr (by decide) (aI (by omega) (by simp) all0) ?_
  rintro _ _ _ _ X1 ⟨xa1_2, xk1_3, rfl, q4, q5, q6, q7, q8, q9, _⟩ _ _ _
  refine sk [] rfl ?_
  exact oz X1 d43_6 rfl (by decide) (by decide) (fun _ CC => ⟨xa1_2, xk1_3, rfl, q4, q5, q6, q7, q8, (CC.safe (own_lt (by omega)) q9), by omega⟩)
def Q34 (Z : State) (b1 : Int32) (h0 : Heap) (v : Option Value) (h : Heap) (vm : Vm) : Prop := ∃ (xa1 : Addr) (xa2 : Addr) (xk1 : ClassId), v = some (.ref xa1) ∧ ex1 Z h xa1 ∧ fd1 Z h xa1 (.int 0) ∧ fd0 Z h xa1 (.ref xa2) ∧ Safe Z EL0 vm h xa1 ∧ av0 Z h xa2 xk1 4 [.int b1, .int 32, .int 91, .int 93] ∧ ex0 Z h xa2 ∧ Safe Z EL0 vm h xa2 ∧ h0.size ≤ xa1 ∧ h.size > xa1 ∧ h0.size ≤ xa2 ∧ h.size > xa2 ∧ NE xa1 xa2
theorem rm_au60 (G : GL l Z a0 zc dce kdce eed keed mroa mral mrul mrur) (F0 : ex6 Z h0 pa1) (F1 : fd10 Z h0 pa1 (.int 0)) (F2 : fd11 Z h0 pa1 (.int 4)) (F3 : fd9 Z h0 pa1 (.ref pa2)) (F4 : av0 Z h0 pa2 pk1 16 [.int pi1, .int 32, .int 91, .int 93, i0, i0, i0, i0, i0, i0, i0, i0, i0, i0, i0, i0]) : M42 l Z 5 2 8 101 #[.ref pa1] h0 n0 [] [] (Q34 Z pi1 h0) := by
  refine mi B42 ef9 (hEW G) fun s X0 hsf0 n0le => ?_
  have l1 := F0.l
  have := F4.l
  refine o_new 3 X0 (w294 G) (w10 G) (w2 G) d42_0 rfl (by decide) (by decide) ?_
  intro _ h1 b1 X1 _ l1 E1 A1 D1 _ _ S1
  have f2 : fd0 Z h1 b1 .null := D1 (Or.inr (w23 G)) fd_0
  have f3 : fd1 Z h1 b1 (.int 0) := D1 (Or.inr (w25 G)) fd_1
  refine oD 4 X1 d42_3 rfl rfl <| oA 5 X1 d42_4 rfl rfl ?_
  have f4 := F0.ext E1
  have f5 := F1.ext E1
  have f6 := F2.ext E1
  have f7 := F3.ext E1
  have f8 := F4.ext E1
  refine mP 8 1 X1 (rm_au59 G A1 f3 f2 f4 f5 f6 f7 f8 (by omega)) (u50 G) (sS (by omega) S1 all0) d42_5 rfl rfl rfl lr (by decide) (aR (by omega) all0) ?_
  rintro _ _ _ _ X9 ⟨xa1_10, xk1_11, rfl, q12, q13, q14, q15, q16, q17, _⟩ _ _ C9
  refine sk [.ref b1] rfl ?_
  have f19 := C9.safe (own_lt (by omega)) S1
  exact oR X9 d42_8 rfl rfl rfl (by decide) (by decide) (fun _ CC => ⟨b1, xa1_10, xk1_11, rfl, q12, q13, q14, (CC.safe (own_lt (by omega)) f19), q15, q16, (CC.safe (own_lt (by omega)) q17), by omega⟩)
theorem rm_au61 (G : GL l Z a0 zc dce kdce eed keed mroa mral mrul mrur) (F0 : ex5 Z h0 pa1) (F1 : fd6 Z h0 pa1 (.ref pa2)) (F2 : fd5 Z h0 pa1 (.ref pa3)) (F3 : ex4 Z h0 pa2) (F4 : fd7 Z h0 pa2 (.ref pa4)) (F5 : ex1 Z h0 pa3) (F6 : fd1 Z h0 pa3 (.int 0)) (F7 : fd0 Z h0 pa3 (.ref pa5)) (F8 : ex2 Z h0 pa4) (F9 : fd2 Z h0 pa4 (.int 0)) (F10 : fd4 Z h0 pa4 (.int 0)) (F11 : av0 Z h0 pa5 pk1 1 [.int pi1]) (F12 : ex0 Z h0 pa5) : M24 l Z 7 9 52 113 #[.ref pa1] h0 n0 [] [] (Q34 Z pi1 h0) := by
  have hw := G.1
  refine mi B24 ef9 (hEW G) fun s X0 hsf0 n0le => ?_
  have l1 := F0.l
  have := F3.l
  have := F5.l
  have := F8.l
  have := F11.l
  refine o_new 3 X0 (w168 G) (w169 G) (w170 G) d24_0 rfl (by decide) (by decide) ?_
  intro _ h1 b1 X1 _ l1 E1 A1 D1 _ _ _
  have f2 : fd9 Z h1 b1 .null := D1 (Or.inl (w183 G)) fd_0
  have f3 : fd10 Z h1 b1 (.int 0) := D1 (Or.inl (w185 G)) fd_1
  have f4 : fd11 Z h1 b1 (.int 0) := D1 (Or.inl (w207 G)) fd_2
  refine oD 4 X1 d24_3 rfl rfl <| mP 7 1 X1 (rm_au24 G A1 f3 f4 f2 (by omega)) (u24 G) all0 d24_4 rfl rfl rfl lr (by decide) (aR (by omega) all0) ?_
  rintro _ _ _ _ X5 ⟨xa1_6, _, rfl, q8, q9, q10, q11, q12, q13, q14, _⟩ K5 _ _
  refine sk [.ref b1] rfl <| oA 8 X5 d24_7 rfl rfl ?_
  have f16 := (F2.ext E1).k1 K5 (by omega)
  refine oF 11 X5 (w79 G) Via.refl f16 d24_8 rfl ?_
  intro _ X18
  have f19 := (F5.ext E1).keep K5
  have f20 := (F6.ext E1).k1 K5 (by omega)
  have f21 := (F7.ext E1).k1 K5 (by omega)
  have f22 := (F11.ext E1).k1 K5 (by omega)
  refine mV 14 0 X18 q8 (rm_au32 G q8 q9 q10 q11 f19 f20 f21 q12 q13 f22 (by omega)) (u33 G) (sS (by omega) q14 all0) d24_11 rfl rfl rfl lr (by decide) (aR (by omega) (aR (by omega) all0)) ?_
  rintro _ _ _ _ X23 ⟨rfl, q24, q25, q26, q27, q28, q29⟩ K23 _ C23
  refine sk [.ref b1] rfl <| o_ldcC 16 (n := 4) (vs := own_bs ([32] : List Int32)) (z := (1 : Int32)) X23 (w230 G) (hws_str hw) (by decide) ⟨by decide, rfl⟩ (by decide) (by decide) d24_14 rfl (by decide) (by decide) (by decide) (by decide) ?_
  intro a30 b30 kb30 _ h30 _ X30 E30 C30 Es30 Cs30 Vs30 As30 SF30
  have lta30 : h30.size > a30 := Es30.lt
  have ltb30 : h30.size > b30 := As30.lt
  have := E30.1
  have Bs30 : av0 Z h30 b30 kb30 1 [.int 32] := As30
  have f32 := q24.ext E30
  have := own_nes (SF30 b1 (sx X30 f32 nc5))
  have f34 := (((F0.ext E1).keep K5).keep K23).ext E30
  have := own_nes (SF30 pa1 (sx X30 f34 nc2))
  have f36 := (((F3.ext E1).keep K5).keep K23).ext E30
  have := own_nes (SF30 pa2 (sx X30 f36 nc4))
  have f38 := (((F8.ext E1).keep K5).keep K23).ext E30
  have := own_nes (SF30 pa4 (sx X30 f38 nc1))
  have f40 := C30.safe (own_lt (by omega)) (C23.safe (own_lt (by omega)) q14)
  have := own_nes (SF30 xa1_6 f40)
  have f41 := q25.ext E30
  have f42 := q26.ext E30
  have f43 := q27.ext E30
  have f44 := q28.ext E30
  have f45 := q29.ext E30
  have := own_neC f32 Es30 (by decide +kernel)
  have := own_neE f32 Bs30 (w169 G)
  have := own_neC Es30 f45 (by decide +kernel)
  have := own_neA f44 Bs30 (by decide)
  refine mV 19 0 X30 f32 (rm_au36 G f32 f41 f42 f43 Es30 Cs30 Vs30 f44 f45 Bs30 (by omega)) (u33 G) (sS (by omega) f40 all0) d24_16 rfl rfl rfl lr (by decide) (aR (by omega) (aR (by omega) all0)) ?_
  rintro _ _ _ _ X50 ⟨rfl, q51, q52, q53, q54, q55, q56⟩ K50 _ C50
  refine sk [.ref b1] rfl <| oA 20 X50 d24_19 rfl rfl ?_
  have f57 := ((((F1.ext E1).k1 K5 (by omega)).k2 K23 (by omega)).ext E30).k2 K50 (by omega)
  refine oF 23 X50 (w161 G) Via.refl f57 d24_20 rfl ?_
  intro _ X59
  have f60 := f36.keep K50
  have f61 := ((((F4.ext E1).k1 K5 (by omega)).k2 K23 (by omega)).ext E30).k2 K50 (by omega)
  have f62 := f38.keep K50
  have f63 := ((((F9.ext E1).k1 K5 (by omega)).k2 K23 (by omega)).ext E30).k2 K50 (by omega)
  have f64 := ((((F10.ext E1).k1 K5 (by omega)).k2 K23 (by omega)).ext E30).k2 K50 (by omega)
  have f65 := C50.safe (own_lt (by omega)) f40
  refine mV 26 0 X59 q51 (rm_au49 G q51 q52 q53 q54 f60 f61 q55 q56 f62 f63 f64 (by omega)) (u41 G) (sS (by omega) f65 all0) d24_23 rfl rfl rfl lr (by decide) (aR (by omega) (aR (by omega) all0)) ?_
  rintro _ _ _ _ X66 ⟨rfl, q67, q68, q69, q70, q71, _⟩ _ _ _
  refine sk [.ref b1] rfl <| mV 29 0 X66 q67 (rm_au60 G q67 q68 q69 q70 q71) (u51 G) all0 d24_26 rfl rfl rfl lr (by decide) all0 ?_
  rintro _ _ _ _ X73 ⟨xa1_74, xa2_75, xk1_76, rfl, q77, q78, q79, q80, q81, q82, q83, _⟩ _ _ _
  refine sk [.ref xa1_74] rfl ?_
  exact oR X73 d24_29 rfl rfl rfl (by decide) (by decide) (fun _ CC => ⟨xa1_74, xa2_75, xk1_76, rfl, q77, q78, q79, (CC.safe (own_lt (by omega)) q80), q81, q82, (CC.safe (own_lt (by omega)) q83), by omega⟩)
theorem rm_au62 (G : GL l Z a0 zc dce kdce eed keed mroa mral mrul mrur) (F0 : av0 Z h0 pa1 pk1 4 [.int pi1, .int pi2, .int pi3, .int pi4]) (F1 : av0 Z h0 pa2 pk2 4 [.int pi1, .int pi5, .int pi6, .int pi7]) (pc_0 : pi2 = pi5) (pc_1 : pi3 = pi6) (pc_2 : pi4 = pi7) : M53 l Z 0 0 0 0 #[.ref pa1, .ref pa2] h0 n0 [] [] (Q0 Z  h0) := by
  refine mi B53 ef11 (hEW G) fun s X0 hsf0 n0le => ?_
  have := F0.l
  have := F1.l
  refine oA 1 X0 d53_0 rfl rfl <| oL 2 X0 F0 d53_1 rfl <| oA 3 X0 d53_2 rfl rfl <| oL 4 X0 F1 d53_3 rfl <| oN 7 X0 d53_4 rfl (teq (by decide)).2 <| oc 8 (v := 0) X0 d53_7 rfl (by decide) <| oT 9 (l' := #[rr pa1, rr pa2, ii 0]) X0 d53_8 rfl rfl <| oI 10 X0 d53_9 rfl rfl <| oA 11 X0 d53_10 rfl rfl <| oL 12 X0 F0 d53_11 rfl <| oN 15 X0 d53_12 rfl (tlt (by decide)).2.1 <| oA 16 X0 d53_15 rfl rfl ?_
  refine oI 17 X0 d53_16 rfl rfl <| oB 18 (v := (.int pi1)) X0 F0 ⟨by decide, by decide⟩ rfl d53_17 rfl <| oA 19 X0 d53_18 rfl rfl <| oI 20 X0 d53_19 rfl rfl <| oB 21 (v := (.int pi1)) X0 F1 ⟨by decide, by decide⟩ rfl d53_20 rfl <| oY 26 X0 d53_21 (by decide) (teq rfl).1 <| oJ 29 1 #[rr pa1, rr pa2, ii 1] X0 d53_26 rfl rfl (by decide) rfl <| og 9 X0 d53_29 (by decide) <| oI 10 X0 d53_9 rfl rfl <| oA 11 X0 d53_10 rfl rfl <| oL 12 X0 F0 d53_11 rfl <| oN 15 X0 d53_12 rfl (tlt (by decide)).2.1 ?_
  refine oA 16 X0 d53_15 rfl rfl <| oI 17 X0 d53_16 rfl rfl <| oB 18 (v := (.int pi2)) X0 F0 ⟨by decide, by decide⟩ rfl d53_17 rfl <| oA 19 X0 d53_18 rfl rfl <| oI 20 X0 d53_19 rfl rfl <| oB 21 (v := (.int pi5)) X0 F1 ⟨by decide, by decide⟩ rfl d53_20 rfl <| oY 26 X0 d53_21 (by decide) (teq pc_0).1 <| oJ 29 2 #[rr pa1, rr pa2, ii 2] X0 d53_26 rfl rfl (by decide) rfl <| og 9 X0 d53_29 (by decide) <| oI 10 X0 d53_9 rfl rfl <| oA 11 X0 d53_10 rfl rfl <| oL 12 X0 F0 d53_11 rfl ?_
  refine oN 15 X0 d53_12 rfl (tlt (by decide)).2.1 <| oA 16 X0 d53_15 rfl rfl <| oI 17 X0 d53_16 rfl rfl <| oB 18 (v := (.int pi3)) X0 F0 ⟨by decide, by decide⟩ rfl d53_17 rfl <| oA 19 X0 d53_18 rfl rfl <| oI 20 X0 d53_19 rfl rfl <| oB 21 (v := (.int pi6)) X0 F1 ⟨by decide, by decide⟩ rfl d53_20 rfl <| oY 26 X0 d53_21 (by decide) (teq pc_1).1 <| oJ 29 3 #[rr pa1, rr pa2, ii 3] X0 d53_26 rfl rfl (by decide) rfl <| og 9 X0 d53_29 (by decide) <| oI 10 X0 d53_9 rfl rfl <| oA 11 X0 d53_10 rfl rfl ?_
  refine oL 12 X0 F0 d53_11 rfl <| oN 15 X0 d53_12 rfl (tlt (by decide)).2.1 <| oA 16 X0 d53_15 rfl rfl <| oI 17 X0 d53_16 rfl rfl <| oB 18 (v := (.int pi4)) X0 F0 ⟨by decide, by decide⟩ rfl d53_17 rfl <| oA 19 X0 d53_18 rfl rfl <| oI 20 X0 d53_19 rfl rfl <| oB 21 (v := (.int pi7)) X0 F1 ⟨by decide, by decide⟩ rfl d53_20 rfl <| oY 26 X0 d53_21 (by decide) (teq pc_2).1 <| oJ 29 4 #[rr pa1, rr pa2, ii 4] X0 d53_26 rfl rfl (by decide) rfl <| og 9 X0 d53_29 (by decide) <| oI 10 X0 d53_9 rfl rfl ?_
  refine oA 11 X0 d53_10 rfl rfl <| oL 12 X0 F0 d53_11 rfl <| oY 32 X0 d53_12 (by decide) (flt (by decide)).2.1 <| oc 33 (v := 1) X0 d53_32 rfl (by decide) ?_
  exact o_nret (y := (1 : Int32)) (t := .boolean) X0 d53_33 rfl (by decide) (by simp) (by decide) (by decide) (fun _ CC => rfl)
theorem rm_au63 (G : GL l Z a0 zc dce kdce eed keed mroa mral mrul mrur) (F0 : fd1 Z h0 pa1 (.int pi100)) (F1 : fd0 Z h0 pa1 (.ref pa3)) (F2 : ex1 Z h0 pa2) (F3 : fd1 Z h0 pa2 (.int pi101)) (F4 : fd0 Z h0 pa2 (.ref pa4)) (F5 : av0 Z h0 pa3 pk1 4 [.int pi1, .int pi102, .int pi103, .int pi104]) (F6 : av0 Z h0 pa4 pk2 4 [.int pi1, .int pi105, .int pi106, .int pi107]) (pc_0 : pi100 = pi101) (pc_1 : pi102 = pi105) (pc_2 : pi103 = pi106) (pc_3 : pi104 = pi107) (ne : NE pa1 pa2) : M52 l Z 1 0 0 14 #[.ref pa1, .ref pa2] h0 n0 [] [] (Q0 Z  h0) := by
  refine mi B52 ef11 (hEW G) fun s X0 hsf0 n0le => ?_
  have := F0.l
  have := F2.l
  have := F5.l
  have := F6.l
  refine oA 1 X0 d52_0 rfl rfl <| oA 2 X0 d52_1 rfl rfl <| o_acmp 7 (same := false) X0 d52_2 rfl rfl (decide_eq_false (fun q => absurd (Value.ref.inj q) (own_ne (by omega)))) (by decide) (by decide) <| oA 8 X0 d52_7 rfl rfl <| o_instY 11 X0 (w9 G) (Ins.self F2) d52_8 rfl ?_
  intro _ X2
  refine on 14 X2 d52_11 rfl ((if0 _ _).trans (feq (by decide)).1) <| oA 15 X2 d52_14 rfl rfl <| o_castY 18 X2 (w9 G) (Ins.self F2) d52_15 rfl ?_
  intro _ X4
  refine oV 19 (l' := #[rr pa1, rr pa2, rr pa2]) X4 d52_18 rfl rfl rfl <| oG 22 X4 (w4 G) Via.refl ((sg10 G).ext X4.old.2) d52_19 rfl ?_
  intro _ X6
  refine on 25 X6 d52_22 rfl ((if0 _ _).trans (feq (hzc G)).1) <| oA 26 X6 d52_25 rfl rfl <| oF 29 X6 (w24 G) Via.refl F0 d52_26 rfl ?_
  intro _ X8
  refine oA 30 X8 d52_29 rfl rfl <| oF 33 X8 (w24 G) Via.refl F3 d52_30 rfl ?_
  intro _ X10
  refine oN 36 X10 d52_33 rfl (teq pc_0).2 <| oA 37 X10 d52_36 rfl rfl <| oF 40 X10 (w22 G) Via.refl F1 d52_37 rfl ?_
  intro _ X12
  refine oA 41 X12 d52_40 rfl rfl <| oF 44 X12 (w22 G) Via.refl F4 d52_41 rfl ?_
  intro _ X14
  refine mS 47 0 X14 (rm_au62 G F5 F6 pc_1 pc_2 pc_3) (u53 G) all0 d52_44 rfl rfl rfl lr (by decide) all0 ?_
  rintro _ _ _ _ X15 rfl _ _ _
  refine sk [.int 1] rfl <| on 50 X15 d52_47 rfl ((if0 _ _).trans (feq (by decide)).1) <| oc 51 (v := 1) X15 d52_50 rfl (by decide) <| og 55 X15 d52_51 (by decide) ?_
  exact o_nret (y := (1 : Int32)) (t := .boolean) X15 d52_55 rfl (by decide) (by simp) (by decide) (by decide) (fun _ CC => rfl)
def Q35 (Z : State) (b1 : Addr) (b2 : ClassId) (b3 b4 : Int32) (h0 : Heap) (v : Option Value) (h : Heap) (vm : Vm) : Prop := v = some (.int 5) ∧ av0 Z h b1 b2 5 [.int (b3.toInt8.toInt32), .int 32, .int 91, .int (b4.toInt8.toInt32), .int 93] ∧ ex0 Z h b1
theorem rm_au64 (G : GL l Z a0 zc dce kdce eed keed mroa mral mrul mrur) (F0 : av1 Z h0 pa1 pk1 5 [.int pi1, .int 32, .int 91, .int pi2, .int 93]) (F1 : av0 Z h0 pa2 pk2 5 [i0, i0, i0, i0, i0]) (F2 : ex0 Z h0 pa2) (rg_pi1 : ¬ pi1 < 0 ∧ ¬ (255 : Int32) < pi1) (rg_pi2 : ¬ pi2 < 0 ∧ ¬ (255 : Int32) < pi2) (ne : NE pa1 pa2 ∧ n0 ≤ pa2) : M9 l Z 0 0 0 0 #[.ref pa1, i0, .ref pa2, i0, .int 5] h0 n0 [pa2] [pa2] (Q35 Z pa2 pk2 pi1 pi2 h0) := by
  refine mi B9 ef7 (hEW G) fun s X0 hsf0 n0le => ?_
  have := F0.l
  have := F1.l
  have sf_pa2 := hsf0 pa2 (by simp)
  refine oc 1 (v := 0) X0 d9_0 rfl (by decide) <| oS 3 (l' := #[rr pa1, ii 0, rr pa2, ii 0, ii 5, ii 0, uu]) X0 d9_1 rfl rfl <| oi 5 X0 d9_3 rfl rfl <| oi 7 X0 d9_5 rfl rfl <| oN 10 X0 d9_7 rfl (tlt (by decide)).2.1 <| oA 11 X0 d9_10 rfl rfl <| oI 12 X0 d9_11 rfl rfl <| oC 13 (v := (.int pi1)) X0 F0 ⟨by decide, by decide⟩ rfl d9_12 rfl <| oS 15 (l' := #[rr pa1, ii 0, rr pa2, ii 0, ii 5, ii 0, ii pi1]) X0 d9_13 rfl rfl <| oi 17 X0 d9_15 rfl rfl <| o_sipush 20 (v := 255) X0 d9_17 rfl (by decide) <| oY 26 X0 d9_20 (by decide) (flt rg_pi1.2).2.2.2 ?_
  refine oA 27 X0 d9_26 rfl rfl <| oI 28 X0 d9_27 rfl rfl <| oi 30 X0 d9_28 rfl rfl <| o_i2b 31 (v := (pi1.toInt8.toInt32)) X0 d9_30 rfl rfl <| sB 32 0 (pi1.toInt8.toInt32) X0 F1 (by decide) (lb rfl) (own_narB _) d9_31 rfl (by omega) (Or.inl (by simp)) sf_pa2 ?_
  rintro _ _ X1 ⟨_, _, W1⟩ C1 V1
  have := W1.size
  have V2 := V1.as [.int (pi1.toInt8.toInt32), i0, i0, i0, i0] rfl
  refine oJ 35 1 #[rr pa1, ii 1, rr pa2, ii 0, ii 5, ii 0, ii pi1] X1 d9_32 rfl rfl (by decide) rfl <| oJ 38 1 #[rr pa1, ii 1, rr pa2, ii 1, ii 5, ii 0, ii pi1] X1 d9_35 rfl rfl (by decide) rfl <| oJ 41 1 #[rr pa1, ii 1, rr pa2, ii 1, ii 5, ii 1, ii pi1] X1 d9_38 rfl rfl (by decide) rfl <| og 3 X1 d9_41 (by decide) <| oi 5 X1 d9_3 rfl rfl <| oi 7 X1 d9_5 rfl rfl <| oN 10 X1 d9_7 rfl (tlt (by decide)).2.1 <| oA 11 X1 d9_10 rfl rfl <| oI 12 X1 d9_11 rfl rfl ?_
  have f3 := F0.oth W1 (by omega)
  refine oC 13 (v := (.int 32)) X1 f3 ⟨by decide, by decide⟩ rfl d9_12 rfl <| oS 15 (l' := #[rr pa1, ii 1, rr pa2, ii 1, ii 5, ii 1, ii 32]) X1 d9_13 rfl rfl <| oi 17 X1 d9_15 rfl rfl <| o_sipush 20 (v := 255) X1 d9_17 rfl (by decide) <| oY 26 X1 d9_20 (by decide) (flt (by decide)).2.2.2 <| oA 27 X1 d9_26 rfl rfl <| oI 28 X1 d9_27 rfl rfl <| oi 30 X1 d9_28 rfl rfl <| o_i2b 31 (v := 32) X1 d9_30 rfl (by decide) ?_
  have f5 := C1.safe (own_lt (by omega)) sf_pa2
  refine sB 32 1 32 X1 V2 (by decide) (lb rfl) (by decide) d9_31 rfl (by omega) (Or.inl (by simp)) f5 ?_
  rintro _ _ X4 ⟨_, _, W4⟩ C4 V4
  have := W4.size
  have V6 := V4.as [.int (pi1.toInt8.toInt32), .int 32, i0, i0, i0] rfl
  refine oJ 35 2 #[rr pa1, ii 2, rr pa2, ii 1, ii 5, ii 1, ii 32] X4 d9_32 rfl rfl (by decide) rfl <| oJ 38 2 #[rr pa1, ii 2, rr pa2, ii 2, ii 5, ii 1, ii 32] X4 d9_35 rfl rfl (by decide) rfl <| oJ 41 2 #[rr pa1, ii 2, rr pa2, ii 2, ii 5, ii 2, ii 32] X4 d9_38 rfl rfl (by decide) rfl <| og 3 X4 d9_41 (by decide) <| oi 5 X4 d9_3 rfl rfl <| oi 7 X4 d9_5 rfl rfl <| oN 10 X4 d9_7 rfl (tlt (by decide)).2.1 <| oA 11 X4 d9_10 rfl rfl <| oI 12 X4 d9_11 rfl rfl ?_
  have f7 := f3.oth W4 (by omega)
  refine oC 13 (v := (.int 91)) X4 f7 ⟨by decide, by decide⟩ rfl d9_12 rfl <| oS 15 (l' := #[rr pa1, ii 2, rr pa2, ii 2, ii 5, ii 2, ii 91]) X4 d9_13 rfl rfl <| oi 17 X4 d9_15 rfl rfl <| o_sipush 20 (v := 255) X4 d9_17 rfl (by decide) <| oY 26 X4 d9_20 (by decide) (flt (by decide)).2.2.2 <| oA 27 X4 d9_26 rfl rfl <| oI 28 X4 d9_27 rfl rfl <| oi 30 X4 d9_28 rfl rfl <| o_i2b 31 (v := 91) X4 d9_30 rfl (by decide) ?_
  have f9 := C4.safe (own_lt (by omega)) f5
  refine sB 32 2 91 X4 V6 (by decide) (lb rfl) (by decide) d9_31 rfl (by omega) (Or.inl (by simp)) f9 ?_
  rintro _ _ X8 ⟨_, _, W8⟩ C8 V8
  have := W8.size
  have V10 := V8.as [.int (pi1.toInt8.toInt32), .int 32, .int 91, i0, i0] rfl
  refine oJ 35 3 #[rr pa1, ii 3, rr pa2, ii 2, ii 5, ii 2, ii 91] X8 d9_32 rfl rfl (by decide) rfl <| oJ 38 3 #[rr pa1, ii 3, rr pa2, ii 3, ii 5, ii 2, ii 91] X8 d9_35 rfl rfl (by decide) rfl <| oJ 41 3 #[rr pa1, ii 3, rr pa2, ii 3, ii 5, ii 3, ii 91] X8 d9_38 rfl rfl (by decide) rfl <| og 3 X8 d9_41 (by decide) <| oi 5 X8 d9_3 rfl rfl <| oi 7 X8 d9_5 rfl rfl <| oN 10 X8 d9_7 rfl (tlt (by decide)).2.1 <| oA 11 X8 d9_10 rfl rfl <| oI 12 X8 d9_11 rfl rfl ?_
  have f11 := f7.oth W8 (by omega)
  refine oC 13 (v := (.int pi2)) X8 f11 ⟨by decide, by decide⟩ rfl d9_12 rfl <| oS 15 (l' := #[rr pa1, ii 3, rr pa2, ii 3, ii 5, ii 3, ii pi2]) X8 d9_13 rfl rfl <| oi 17 X8 d9_15 rfl rfl <| o_sipush 20 (v := 255) X8 d9_17 rfl (by decide) <| oY 26 X8 d9_20 (by decide) (flt rg_pi2.2).2.2.2 <| oA 27 X8 d9_26 rfl rfl <| oI 28 X8 d9_27 rfl rfl <| oi 30 X8 d9_28 rfl rfl <| o_i2b 31 (v := (pi2.toInt8.toInt32)) X8 d9_30 rfl rfl ?_
  have f13 := C8.safe (own_lt (by omega)) f9
  refine sB 32 3 (pi2.toInt8.toInt32) X8 V10 (by decide) (lb rfl) (own_narB _) d9_31 rfl (by omega) (Or.inl (by simp)) f13 ?_
  rintro _ _ X12 ⟨_, _, W12⟩ C12 V12
  have := W12.size
  have V14 := V12.as [.int (pi1.toInt8.toInt32), .int 32, .int 91, .int (pi2.toInt8.toInt32), i0] rfl
  refine oJ 35 4 #[rr pa1, ii 4, rr pa2, ii 3, ii 5, ii 3, ii pi2] X12 d9_32 rfl rfl (by decide) rfl <| oJ 38 4 #[rr pa1, ii 4, rr pa2, ii 4, ii 5, ii 3, ii pi2] X12 d9_35 rfl rfl (by decide) rfl <| oJ 41 4 #[rr pa1, ii 4, rr pa2, ii 4, ii 5, ii 4, ii pi2] X12 d9_38 rfl rfl (by decide) rfl <| og 3 X12 d9_41 (by decide) <| oi 5 X12 d9_3 rfl rfl <| oi 7 X12 d9_5 rfl rfl <| oN 10 X12 d9_7 rfl (tlt (by decide)).2.1 <| oA 11 X12 d9_10 rfl rfl <| oI 12 X12 d9_11 rfl rfl ?_
  have f15 := f11.oth W12 (by omega)
  refine oC 13 (v := (.int 93)) X12 f15 ⟨by decide, by decide⟩ rfl d9_12 rfl <| oS 15 (l' := #[rr pa1, ii 4, rr pa2, ii 4, ii 5, ii 4, ii 93]) X12 d9_13 rfl rfl <| oi 17 X12 d9_15 rfl rfl <| o_sipush 20 (v := 255) X12 d9_17 rfl (by decide) <| oY 26 X12 d9_20 (by decide) (flt (by decide)).2.2.2 <| oA 27 X12 d9_26 rfl rfl <| oI 28 X12 d9_27 rfl rfl <| oi 30 X12 d9_28 rfl rfl <| o_i2b 31 (v := 93) X12 d9_30 rfl (by decide) ?_
  have f17 := C12.safe (own_lt (by omega)) f13
  refine sB 32 4 93 X12 V14 (by decide) (lb rfl) (by decide) d9_31 rfl (by omega) (Or.inl (by simp)) f17 ?_
  rintro _ _ X16 ⟨_, _, W16⟩ _ V16
  have := W16.size
  have V18 := V16.as [.int (pi1.toInt8.toInt32), .int 32, .int 91, .int (pi2.toInt8.toInt32), .int 93] rfl
  refine oJ 35 5 #[rr pa1, ii 5, rr pa2, ii 4, ii 5, ii 4, ii 93] X16 d9_32 rfl rfl (by decide) rfl <| oJ 38 5 #[rr pa1, ii 5, rr pa2, ii 5, ii 5, ii 4, ii 93] X16 d9_35 rfl rfl (by decide) rfl <| oJ 41 5 #[rr pa1, ii 5, rr pa2, ii 5, ii 5, ii 5, ii 93] X16 d9_38 rfl rfl (by decide) rfl <| og 3 X16 d9_41 (by decide) <| oi 5 X16 d9_3 rfl rfl <| oi 7 X16 d9_5 rfl rfl <| oY 44 X16 d9_7 (by decide) (flt (by decide)).2.1 <| oi 46 X16 d9_44 rfl rfl ?_
  have f19 := ((((F2.wr W1).wr W4).wr W8).wr W12).wr W16
  exact o_iret X16 d9_46 rfl (by decide) (by decide) (fun _ CC => ⟨rfl, V18, f19⟩)
def Q36 (Z : State) (b1 b2 : Int32) (h0 : Heap) (v : Option Value) (h : Heap) (vm : Vm) : Prop := ∃ (xa1 : Addr) (xk1 : ClassId), v = some (.ref xa1) ∧ av0 Z h xa1 xk1 5 [.int (b1.toInt8.toInt32), .int 32, .int 91, .int (b2.toInt8.toInt32), .int 93] ∧ ex0 Z h xa1 ∧ Safe Z EL0 vm h xa1 ∧ h0.size ≤ xa1 ∧ h.size > xa1
theorem rm_au65 (G : GL l Z a0 zc dce kdce eed keed mroa mral mrul mrur) (F0 : av1 Z h0 pa1 pk1 5 [.int pi1, .int 32, .int 91, .int pi2, .int 93]) (rg_pi1 : ¬ pi1 < 0 ∧ ¬ (255 : Int32) < pi1) (rg_pi2 : ¬ pi2 < 0 ∧ ¬ (255 : Int32) < pi2) : M8 l Z 1 1 5 18 #[.ref pa1, i0, .int 5] h0 n0 [] [] (Q36 Z pi1 pi2 h0) := by
  refine mi B8 ef6 (hEW G) fun s X0 hsf0 n0le => ?_
  have l1 := F0.l
  refine oI 1 X0 d8_0 rfl rfl <| nP (aty := .byte) 3 5 X0 (w14 G) d8_1 rfl (by decide) had_byte ?_
  intro _ h1 b1 k1 X1 _ l1 E1 V1 A1 _ S1
  have V2 : av0 Z h1 b1 k1 5 [i0, i0, i0, i0, i0] := V1.pad (pad_rep [] (.int (0 : Int32)) 5)
  refine oV 4 (l' := #[rr pa1, ii 0, ii 5, rr b1, uu, uu]) X1 d8_3 rfl rfl rfl <| oA 5 X1 d8_4 rfl rfl <| oI 6 X1 d8_5 rfl rfl <| oA 7 X1 d8_6 rfl rfl <| oc 8 (v := 0) X1 d8_7 rfl (by decide) <| oI 9 X1 d8_8 rfl rfl ?_
  have f3 := F0.ext E1
  refine mS 12 0 X1 (rm_au64 G f3 V2 A1 rg_pi1 rg_pi2 (by omega)) (u4 G) (sS (by omega) S1 all0) d8_9 rfl rfl rfl lr (by decide) (aR (by omega) all0) ?_
  rintro _ _ _ _ X4 ⟨rfl, q5, q6⟩ _ _ C4
  refine sk [.int 5] rfl <| oS 14 (l' := #[rr pa1, ii 0, ii 5, rr b1, ii 5, uu]) X4 d8_12 rfl rfl <| oi 16 X4 d8_14 rfl rfl <| oI 17 X4 d8_16 rfl rfl <| oY 57 X4 d8_17 (by decide) (teq (by decide)).1 <| oA 58 X4 d8_57 rfl rfl ?_
  have f7 := C4.safe (own_lt (by omega)) S1
  exact oR X4 d8_58 rfl rfl rfl (by decide) (by decide) (fun _ CC => ⟨b1, k1, rfl, q5, q6, (CC.safe (own_lt (by omega)) f7), by omega⟩)
theorem rm_au66 (G : GL l Z a0 zc dce kdce eed keed mroa mral mrul mrur) (F0 : av0 Z h0 pa1 pk1 5 ps_pa1) : M10 l Z 0 0 0 0 #[.ref pa1, .int 5] h0 n0 [] [] (Q6 Z  h0) := by
  refine mi B10 ef8 (hEW G) fun s X0 hsf0 n0le => ?_
  have := F0.l
  refine oI 1 X0 d10_0 rfl rfl <| oA 2 X0 d10_1 rfl rfl <| oL 3 X0 F0 d10_2 rfl <| o_isub 4 (v := 0) X0 d10_3 rfl (by decide) <| ob 6 (v := 31) X0 d10_4 rfl (by decide) <| o_iushr 7 (v := 0) X0 d10_6 rfl (by decide) <| o_i2b 8 (v := 0) X0 d10_7 rfl (by decide) ?_
  exact o_nret (y := (0 : Int32)) (t := .byte) X0 d10_8 rfl (by decide) (by simp) (by decide) (by decide) (fun _ CC => rfl)
def Q37 (Z : State) (b1 : Addr) (b2 b3 : Int32) (h0 : Heap) (v : Option Value) (h : Heap) (vm : Vm) : Prop := ∃ (xa1 : Addr) (xk1 : ClassId), v = none ∧ ex1 Z h b1 ∧ fd1 Z h b1 (.int 0) ∧ fd0 Z h b1 (.ref xa1) ∧ av0 Z h xa1 xk1 5 [.int (b2.toInt8.toInt32), .int 32, .int 91, .int (b3.toInt8.toInt32), .int 93] ∧ ex0 Z h xa1 ∧ Safe Z EL0 vm h xa1 ∧ h0.size ≤ xa1 ∧ h.size > xa1
theorem rm_au67 (G : GL l Z a0 zc dce kdce eed keed mroa mral mrul mrur) (F0 : ex1 Z h0 pa1) (F1 : fd1 Z h0 pa1 (.int 0)) (F2 : fd0 Z h0 pa1 .null) (F3 : av1 Z h0 pa2 pk1 5 [.int pi1, .int 32, .int 91, .int pi2, .int 93]) (rg_pi1 : ¬ pi1 < 0 ∧ ¬ (255 : Int32) < pi1) (rg_pi2 : ¬ pi2 < 0 ∧ ¬ (255 : Int32) < pi2) (ne : NE pa1 pa2 ∧ n0 ≤ pa1) : M7 l Z 2 1 5 35 #[.ref pa1, .ref pa2, i0, .int 5, .null] h0 n0 [pa1] [pa1] (Q37 Z pa1 pi1 pi2 h0) := by
  refine mi B7 ef5 (hEW G) fun s X0 hsf0 n0le => ?_
  have := F0.l
  have := F3.l
  have sf_pa1 := hsf0 pa1 (by simp)
  refine oA 1 X0 d7_0 rfl rfl <| o_initO 4 (W := 0) X0 (w19 G) (w20 G) (w21 G) rfl (by decide) (Nat.le_of_eq rfl) (by decide) d7_1 rfl ?_
  intro _ X2
  refine oI 5 X2 d7_4 rfl rfl <| oy 27 X2 d7_5 (by decide) ((if0 _ _).trans (feq (by decide)).2) <| oG 30 X2 (w4 G) Via.refl ((sg10 G).ext X2.old.2) d7_27 rfl ?_
  intro _ X4
  refine on 33 X4 d7_30 rfl ((if0 _ _).trans (feq (hzc G)).1) <| oA 34 X4 d7_33 rfl rfl <| oI 35 X4 d7_34 rfl rfl <| oI 36 X4 d7_35 rfl rfl <| mS 39 0 X4 (rm_au65 G F3 rg_pi1 rg_pi2) (u5 G) all0 d7_36 rfl rfl rfl lr (by decide) all0 ?_
  rintro _ _ _ _ X5 ⟨xa1_6, xk1_7, rfl, q8, q9, q10, _⟩ K5 _ C5
  refine sk [.ref xa1_6] rfl <| oU 41 (l' := #[rr pa1, rr pa2, ii 0, ii 5, .val .null, rr xa1_6]) X5 d7_39 rfl rfl rfl <| oA 42 X5 d7_41 rfl rfl <| oa 44 X5 d7_42 rfl rfl <| oI 45 X5 d7_44 rfl rfl <| mS 48 1 X5 (rm_au66 G q8) (u6 G) all0 d7_45 rfl rfl rfl lr (by decide) all0 ?_
  rintro _ _ _ _ X12 rfl K12 _ C12
  refine sk [i0, .ref pa1] rfl ?_
  have f13 := (F1.k0 K5).k0 K12
  have f14 := (F0.keep K5).keep K12
  have f16 := C12.safe (own_lt (by omega)) (C5.safe (own_lt (by omega)) sf_pa1)
  refine oP 51 (v' := (.int 0)) X12 (w24 G) Via.refl f13 f14 (Or.inr ⟨(w25 G), rfl, rfl⟩) (w10 G) fd_1 rfl rfl d7_48 rfl (by omega) (Or.inl (by simp)) f16 ?_
  intro _ _ X15 W15 C15
  have := W15.size
  have f17 := f13.same W15
  refine oA 52 X15 d7_51 rfl rfl <| oa 54 X15 d7_52 rfl rfl ?_
  have f18 := ((F2.k0 K5).k0 K12).other W15 (Or.inr (sn1 G))
  have f19 := f14.wr W15
  have f21 := C15.safe (own_lt (by omega)) f16
  refine oP 57 (v' := (.ref xa1_6)) X15 (w22 G) Via.refl f18 f19 (Or.inr ⟨(w23 G), rfl, rfl⟩) (w10 G) fd_0 rfl rfl d7_54 rfl (by omega) (Or.inl (by simp)) f21 ?_
  intro _ _ X20 W20 C20
  have := W20.size
  have f22 := f18.same W20
  have f23 := f19.wr W20
  have f24 := f17.other W20 (Or.inr (sn0 G))
  have f25 := ((q8.k0 K12).oth W15 (by omega)).oth W20 (by omega)
  have f26 := ((q9.keep K12).wr W15).wr W20
  have f27 := C20.safe (own_lt (by omega)) (C15.safe (own_lt (by omega)) (C12.safe (own_lt (by omega)) q10))
  exact oz X20 d7_57 rfl (by decide) (by decide) (fun _ CC => ⟨xa1_6, xk1_7, rfl, f23, f24, f22, f25, f26, (CC.safe (own_lt (by omega)) f27), by omega⟩)
theorem rm_au68 (G : GL l Z a0 zc dce kdce eed keed mroa mral mrul mrur) (F0 : ex1 Z h0 pa1) (F1 : fd1 Z h0 pa1 (.int 0)) (F2 : fd0 Z h0 pa1 .null) (F3 : av1 Z h0 pa2 pk1 5 [.int pi1, .int 32, .int 91, .int pi2, .int 93]) (rg_pi1 : ¬ pi1 < 0 ∧ ¬ (255 : Int32) < pi1) (rg_pi2 : ¬ pi2 < 0 ∧ ¬ (255 : Int32) < pi2) (ne : NE pa1 pa2 ∧ n0 ≤ pa1) : M6 l Z 3 1 5 52 #[.ref pa1, .ref pa2] h0 n0 [pa1] [pa1] (Q37 Z pa1 pi1 pi2 h0) := by
  refine mi B6 ef4 (hEW G) fun s X0 hsf0 n0le => ?_
  have := F0.l
  have := F3.l
  have sf_pa1 := hsf0 pa1 (by simp)
  refine oA 1 X0 d6_0 rfl rfl <| oA 2 X0 d6_1 rfl rfl <| oc 3 (v := 0) X0 d6_2 rfl (by decide) <| oA 4 X0 d6_3 rfl rfl <| oL 5 X0 F3 d6_4 rfl <| o_aconstNull 6 X0 d6_5 rfl <| mP 9 0 X0 (rm_au67 G F0 F1 F2 F3 rg_pi1 rg_pi2 (by omega)) (u7 G) (sS (by omega) sf_pa1 all0) d6_6 rfl rfl rfl lr (by decide) (aI (by omega) (by simp) all0) ?_
  rintro _ _ _ _ X1 ⟨xa1_2, xk1_3, rfl, q4, q5, q6, q7, q8, q9, _⟩ _ _ _
  refine sk [] rfl ?_
  exact oz X1 d6_9 rfl (by decide) (by decide) (fun _ CC => ⟨xa1_2, xk1_3, rfl, q4, q5, q6, q7, q8, (CC.safe (own_lt (by omega)) q9), by omega⟩)
def Q38 (Z : State) (b1 b2 : Int32) (h0 : Heap) (v : Option Value) (h : Heap) (vm : Vm) : Prop := ∃ (xa1 : Addr) (xa2 : Addr) (xk1 : ClassId), v = some (.ref xa1) ∧ ex1 Z h xa1 ∧ fd1 Z h xa1 (.int 0) ∧ fd0 Z h xa1 (.ref xa2) ∧ Safe Z EL0 vm h xa1 ∧ av0 Z h xa2 xk1 5 [.int (b1.toInt8.toInt32), .int 32, .int 91, .int (b2.toInt8.toInt32), .int 93] ∧ ex0 Z h xa2 ∧ Safe Z EL0 vm h xa2 ∧ h0.size ≤ xa1 ∧ h.size > xa1 ∧ h0.size ≤ xa2 ∧ h.size > xa2 ∧ NE xa1 xa2
theorem rm_au69 (G : GL l Z a0 zc dce kdce eed keed mroa mral mrul mrur) (rg_pi1 : ¬ pi1 < 0 ∧ ¬ (255 : Int32) < pi1) (rg_pi2 : ¬ pi2 < 0 ∧ ¬ (255 : Int32) < pi2) (rg_pi3 : ¬ pi3 < 0 ∧ ¬ (255 : Int32) < pi3) (rg_pi4 : ¬ pi4 < 0 ∧ ¬ (255 : Int32) < pi4) (pc_0 : ¬ pi100 = (0 : Int32)) (pc_1 : pi100 = (1 : Int32)) : M5 l Z 4 3 14 66 #[.int pi100, .int pi1, .int pi2, .int pi3, .int pi4] h0 n0 [] [] (Q38 Z pi1 pi2 h0) := by
  refine mi B5 ef3 (hEW G) fun s X0 hsf0 n0le => ?_
  refine oI 1 X0 d5_0 rfl rfl <| oy 34 X0 d5_1 (by decide) ((if0 _ _).trans (feq pc_0).2) <| oI 35 X0 d5_34 rfl rfl <| oc 36 (v := 1) X0 d5_35 rfl (by decide) <| oN 39 X0 d5_36 rfl (teq pc_1).2 <| o_new 42 X0 (w30 G) (w10 G) (w2 G) d5_39 rfl (by decide) (by decide) ?_
  intro _ h1 b1 X1 _ _ _ A1 D1 _ _ S1
  have f2 : fd0 Z h1 b1 .null := D1 (Or.inr (w23 G)) fd_0
  have f3 : fd1 Z h1 b1 (.int 0) := D1 (Or.inr (w25 G)) fd_1
  refine oD 43 X1 d5_42 rfl rfl <| oc 44 (v := 5) X1 d5_43 rfl (by decide) <| nP (aty := .char) 46 5 X1 (w31 G) d5_44 rfl (by decide) had_char ?_
  intro _ h4 b4 k4 X4 _ _ E4 V4 A4 C4 _
  have V5 : av1 Z h4 b4 k4 5 [i0, i0, i0, i0, i0] := V4.pad (pad_rep [] (.int (0 : Int32)) 5)
  refine oD 47 X4 d5_46 rfl rfl <| oc 48 (v := 0) X4 d5_47 rfl (by decide) <| oI 49 X4 d5_48 rfl rfl <| sC 50 0 pi1 X4 V5 (by decide) (lb rfl) (own_narC rg_pi1) d5_49 rfl (by omega) (Or.inr (by omega)) (sx X4 A4 nc0) ?_
  rintro _ _ X6 ⟨_, _, W6⟩ C6 V6
  have := W6.size
  have V7 := V6.as [.int pi1, i0, i0, i0, i0] rfl
  refine oD 51 X6 d5_50 rfl rfl <| oc 52 (v := 1) X6 d5_51 rfl (by decide) <| ob 54 (v := 32) X6 d5_52 rfl (by decide) ?_
  have f9 := A4.wr W6
  refine sC 55 1 32 X6 V7 (by decide) (lb rfl) (by decide) d5_54 rfl (by omega) (Or.inr (by omega)) (sx X6 f9 nc0) ?_
  rintro _ _ X8 ⟨_, _, W8⟩ C8 V8
  have := W8.size
  have V10 := V8.as [.int pi1, .int 32, i0, i0, i0] rfl
  refine oD 56 X8 d5_55 rfl rfl <| oc 57 (v := 2) X8 d5_56 rfl (by decide) <| ob 59 (v := 91) X8 d5_57 rfl (by decide) ?_
  have f12 := f9.wr W8
  refine sC 60 2 91 X8 V10 (by decide) (lb rfl) (by decide) d5_59 rfl (by omega) (Or.inr (by omega)) (sx X8 f12 nc0) ?_
  rintro _ _ X11 ⟨_, _, W11⟩ C11 V11
  have := W11.size
  have V13 := V11.as [.int pi1, .int 32, .int 91, i0, i0] rfl
  refine oD 61 X11 d5_60 rfl rfl <| oc 62 (v := 3) X11 d5_61 rfl (by decide) <| oI 63 X11 d5_62 rfl rfl ?_
  have f15 := f12.wr W11
  refine sC 64 3 pi2 X11 V13 (by decide) (lb rfl) (own_narC rg_pi2) d5_63 rfl (by omega) (Or.inr (by omega)) (sx X11 f15 nc0) ?_
  rintro _ _ X14 ⟨_, _, W14⟩ C14 V14
  have := W14.size
  have V16 := V14.as [.int pi1, .int 32, .int 91, .int pi2, i0] rfl
  refine oD 65 X14 d5_64 rfl rfl <| oc 66 (v := 4) X14 d5_65 rfl (by decide) <| ob 68 (v := 93) X14 d5_66 rfl (by decide) ?_
  have f18 := f15.wr W14
  refine sC 69 4 93 X14 V16 (by decide) (lb rfl) (by decide) d5_68 rfl (by omega) (Or.inr (by omega)) (sx X14 f18 nc0) ?_
  rintro _ _ X17 ⟨_, _, W17⟩ C17 V17
  have := W17.size
  have V19 := V17.as [.int pi1, .int 32, .int 91, .int pi2, .int 93] rfl
  have f20 := (((((A1.ext E4).wr W6).wr W8).wr W11).wr W14).wr W17
  have f21 := (((((f3.ext E4).oth W6 (by omega)).oth W8 (by omega)).oth W11 (by omega)).oth W14 (by omega)).oth W17 (by omega)
  have f22 := (((((f2.ext E4).oth W6 (by omega)).oth W8 (by omega)).oth W11 (by omega)).oth W14 (by omega)).oth W17 (by omega)
  have f23 := C17.safe (own_lt (by omega)) (C14.safe (own_lt (by omega)) (C11.safe (own_lt (by omega)) (C8.safe (own_lt (by omega)) (C6.safe (own_lt (by omega)) (C4.safe (own_lt (by omega)) S1)))))
  refine mP 72 1 X17 (rm_au68 G f20 f21 f22 V19 rg_pi1 rg_pi2 (by omega)) (u8 G) (sS (by omega) f23 all0) d5_69 rfl rfl rfl lr (by decide) (aR (by omega) all0) ?_
  rintro _ _ _ _ X24 ⟨xa1_25, xk1_26, rfl, q27, q28, q29, q30, q31, q32, _⟩ _ _ C24
  refine sk [.ref b1] rfl ?_
  have f34 := C24.safe (own_lt (by omega)) f23
  exact oR X24 d5_72 rfl rfl rfl (by decide) (by decide) (fun _ CC => ⟨b1, xa1_25, xk1_26, rfl, q27, q28, q29, (CC.safe (own_lt (by omega)) f34), q30, q31, (CC.safe (own_lt (by omega)) q32), by omega⟩)
theorem rm_au70 (G : GL l Z a0 zc dce kdce eed keed mroa mral mrul mrur) (pc_0 : ¬ pi101 < pi1) : M58 l Z 0 0 0 0 #[.int pi101, .int pi1] h0 n0 [] [] (Q12 Z pi101 h0) := by
  refine mi B58 ef13 (hEW G) fun s X0 hsf0 n0le => ?_
  refine oI 1 X0 d58_0 rfl rfl <| oI 2 X0 d58_1 rfl rfl <| oN 5 X0 d58_2 rfl (flt pc_0).1 <| oI 6 X0 d58_5 rfl rfl <| og 10 X0 d58_6 (by decide) ?_
  exact o_iret X0 d58_10 rfl (by decide) (by decide) (fun _ CC => rfl)
def Q39 (Z : State) (b1 : Addr) (b2 b3 : Int32) (h0 : Heap) (v : Option Value) (h : Heap) (vm : Vm) : Prop := ∃ (xa1 : Addr) (xk1 : ClassId), v = some (.ref xa1) ∧ ex2 Z h b1 ∧ fd3 Z h b1 (.ref xa1) ∧ fd2 Z h b1 (.int b2) ∧ fd4 Z h b1 (.int b3) ∧ av2 Z h xa1 xk1 10 [.null, .null, .null, .null, .null, .null, .null, .null, .null, .null] ∧ ex3 Z h xa1 ∧ Ovr Z xk1 "java/lang/Object" ∧ h0.size ≤ xa1 ∧ h.size > xa1
theorem rm_au71 (G : GL l Z a0 zc dce kdce eed keed mroa mral mrul mrur) (F0 : ex2 Z h0 pa1) (F1 : fd3 Z h0 pa1 (.ref dce)) (F2 : fd2 Z h0 pa1 (.int pi2)) (F3 : fd4 Z h0 pa1 (.int pi3)) (pc_0 : ¬ (10 : Int32) < pi1) (ne : n0 ≤ pa1) : M57 l Z 1 1 10 14 #[.ref pa1, .int pi1] h0 n0 [pa1] [] (Q39 Z pa1 pi2 pi3 h0) := by
  refine mi B57 ef22 (hEW G) fun s X0 hsf0 n0le => ?_
  have := F0.l
  refine oA 1 X0 d57_0 rfl rfl <| oF 4 X0 (w70 G) Via.refl F1 d57_1 rfl ?_
  intro _ X2
  have f3 := (sg0 G).ext X2.old.2
  refine oL 5 X2 f3 d57_4 rfl <| oT 6 (l' := #[rr pa1, ii pi1, ii 0, uu]) X2 d57_5 rfl rfl <| oI 7 X2 d57_6 rfl rfl <| on 10 X2 d57_7 rfl ((if0 _ _).trans (flt (by decide)).2.2.1) <| oA 11 X2 d57_10 rfl rfl <| oF 14 X2 (w70 G) Via.refl F1 d57_11 rfl ?_
  intro _ X5
  refine oG 17 X5 (w69 G) Via.refl ((sg8 G).ext X5.old.2) d57_14 rfl ?_
  intro _ X7
  refine o_acmp 45 (same := true) X7 d57_17 rfl rfl (decide_eq_true rfl) (by decide) (by decide) <| oA 46 X7 d57_45 rfl rfl <| ob 48 (v := 10) X7 d57_46 rfl (by decide) <| oI 49 X7 d57_48 rfl rfl <| mS 52 1 X7 (rm_au70 G pc_0) (u55 G) all0 d57_49 rfl rfl rfl lr (by decide) all0 ?_
  rintro _ _ _ _ X8 rfl K8 _ _
  refine sk [.int 10, .ref pa1] rfl <| o_newR 55 (cap := 10) X8 (w360 G) (w111 G) d57_52 rfl (by decide) (by decide) (by decide) (by decide) (by decide) (ad := "[Ljava/lang/Object;") (by decide +kernel) ?_
  intro _ h9 b9 k9 X9 _ _ E9 V9 O9 A9 _ _
  have V10 : av2 Z h9 b9 k9 10 [.null, .null, .null, .null, .null, .null, .null, .null, .null, .null] := V9.pad (pad_rep [] .null 10)
  refine o_dupX1 56 X9 d57_55 rfl rfl rfl ?_
  have f11 := (F1.k0 K8).ext E9
  have f12 := (F0.keep K8).ext E9
  refine oP 59 (v' := (.ref b9)) X9 (w70 G) Via.refl f11 f12 (Or.inl (w71 G)) (w49 G) fd_3 rfl rfl d57_56 rfl (by omega) (Or.inl (by simp)) (sx X9 f12 nc1) ?_
  intro _ _ X13 W13 _
  have := W13.size
  have f14 := f11.same W13
  have f15 := f12.wr W13
  have f16 := ((F2.k0 K8).ext E9).other W13 (Or.inr (sn4 G))
  have f17 := ((F3.k0 K8).ext E9).other W13 (Or.inr (sn5 G))
  have f18 := V10.oth W13 (by omega)
  have f19 := A9.wr W13
  exact oR X13 d57_59 rfl rfl rfl (by decide) (by decide) (fun _ CC => ⟨b9, k9, rfl, f15, f14, f16, f17, f18, f19, O9, by omega⟩)
theorem rm_au72 (G : GL l Z a0 zc dce kdce eed keed mroa mral mrul mrur) (F0 : ex2 Z h0 pa1) (F1 : fd3 Z h0 pa1 (.ref dce)) (F2 : fd2 Z h0 pa1 (.int pi1)) (F3 : fd4 Z h0 pa1 (.int pi2)) (pc_0 : ¬ (10 : Int32) < (pi2 + (1 : Int32))) (ne : n0 ≤ pa1) : M56 l Z 2 1 10 29 #[.ref pa1] h0 n0 [pa1] [] (Q39 Z pa1 pi1 pi2 h0) := by
  refine mi B56 ef9 (hEW G) fun s X0 hsf0 n0le => ?_
  have := F0.l
  refine oA 1 X0 d56_0 rfl rfl <| oA 2 X0 d56_1 rfl rfl <| oF 5 X0 (w94 G) Via.refl F3 d56_2 rfl ?_
  intro _ X2
  refine oc 6 (v := 1) X2 d56_5 rfl (by decide) <| o_iadd 7 (v := (pi2 + (1 : Int32))) X2 d56_6 rfl rfl <| mV 10 0 X2 F0 (rm_au71 G F0 F1 F2 F3 pc_0 (by omega)) (u56 G) all0 d56_7 rfl rfl rfl lr (by decide) (aI (by omega) (by simp) all0) ?_
  rintro _ _ _ _ X3 ⟨xa1_4, xk1_5, rfl, q6, q7, q8, q9, q10, q11, q12, _⟩ _ _ _
  refine sk [.ref xa1_4] rfl ?_
  exact oR X3 d56_10 rfl rfl rfl (by decide) (by decide) (fun _ CC => ⟨xa1_4, xk1_5, rfl, q6, q7, q8, q9, q10, q11, q12, by omega⟩)
def Q40 (Z : State) (b1 b2 : Addr) (h0 : Heap) (v : Option Value) (h : Heap) (vm : Vm) : Prop := ∃ (xa1 : Addr) (xk1 : ClassId), v = none ∧ ex2 Z h b1 ∧ fd3 Z h b1 (.ref xa1) ∧ fd2 Z h b1 (.int 1) ∧ fd4 Z h b1 (.int 1) ∧ av2 Z h xa1 xk1 10 [.ref b2, .null, .null, .null, .null, .null, .null, .null, .null, .null] ∧ ex3 Z h xa1 ∧ Ovr Z xk1 "java/lang/Object" ∧ h0.size ≤ xa1 ∧ h.size > xa1
theorem rm_au73 (G : GL l Z a0 zc dce kdce eed keed mroa mral mrul mrur) (F0 : ex2 Z h0 pa1) (F1 : fd3 Z h0 pa1 (.ref dce)) (F2 : fd2 Z h0 pa1 (.int 1)) (F3 : fd4 Z h0 pa1 (.int 0)) (F4 : ex1 Z h0 pa2) (ne : NE pa1 pa2 ∧ n0 ≤ pa1) : M55 l Z 3 1 10 41 #[.ref pa1, .ref pa2, .ref dce, i0] h0 n0 [pa1] [] (Q40 Z pa1 pa2 h0) := by
  refine mi B55 ef21 (hEW G) fun s X0 hsf0 n0le => ?_
  have := F0.l
  have := F4.l
  refine oI 1 X0 d55_0 rfl rfl <| oA 2 X0 d55_1 rfl rfl ?_
  have f1 := (sg0 G).ext X0.old.2
  refine oL 3 X0 f1 d55_2 rfl <| oN 6 X0 d55_3 rfl (teq (by decide)).2 <| oA 7 X0 d55_6 rfl rfl <| mV 10 0 X0 F0 (rm_au72 G F0 F1 F2 F3 (by decide) (by omega)) (u57 G) all0 d55_7 rfl rfl rfl lr (by decide) (aI (by omega) (by simp) all0) ?_
  rintro _ _ _ _ X2 ⟨xa1_3, xk1_4, rfl, q5, q6, q7, q8, q9, q10, q11, _⟩ K2 _ _
  refine sk [.ref xa1_3] rfl <| oV 11 (l' := #[rr pa1, rr pa2, rr xa1_3, ii 0]) X2 d55_10 rfl rfl rfl <| oA 12 X2 d55_11 rfl rfl <| oI 13 X2 d55_12 rfl rfl <| oA 14 X2 d55_13 rfl rfl ?_
  have f14 := F4.keep K2
  refine o_stR 15 (i := 0) X2 q9 rfl (own_sto q9 q11 f14 (w361 G)) rfl ⟨by decide, by decide⟩ (by decide) (Nat.le_of_ble_eq_true rfl) d55_14 rfl (by omega) (Or.inr (by omega)) (sx X2 q10 nc3) ?_
  rintro _ _ X13 ⟨_, _, W13⟩ _ V13
  have := W13.size
  have V15 := V13.as [.ref pa2, .null, .null, .null, .null, .null, .null, .null, .null, .null] rfl
  refine oA 16 X13 d55_15 rfl rfl <| oI 17 X13 d55_16 rfl rfl <| oc 18 (v := 1) X13 d55_17 rfl (by decide) <| o_iadd 19 (v := 1) X13 d55_18 rfl (by decide) ?_
  have f16 := q8.oth W13 (by omega)
  have f17 := q5.wr W13
  refine oP 22 (v' := (.int 1)) X13 (w94 G) Via.refl f16 f17 (Or.inl (w95 G)) (w49 G) fd_2 rfl rfl d55_19 rfl (by omega) (Or.inl (by simp)) (sx X13 f17 nc1) ?_
  intro _ _ X18 W18 _
  have := W18.size
  have f19 := f16.same W18
  have f20 := f17.wr W18
  have f21 := (q6.oth W13 (by omega)).other W18 (Or.inr (sn6 G))
  have f22 := (q7.oth W13 (by omega)).other W18 (Or.inr (sn7 G))
  have f23 := V15.oth W18 (by omega)
  have f24 := (q10.wr W13).wr W18
  exact oz X18 d55_22 rfl (by decide) (by decide) (fun _ CC => ⟨xa1_3, xk1_4, rfl, f20, f21, f22, f19, f23, f24, q11, by omega⟩)
def Q41 (Z : State) (b1 b2 : Addr) (h0 : Heap) (v : Option Value) (h : Heap) (vm : Vm) : Prop := ∃ (xa1 : Addr) (xk1 : ClassId), v = some (.int 1) ∧ ex2 Z h b1 ∧ fd3 Z h b1 (.ref xa1) ∧ fd2 Z h b1 (.int 1) ∧ fd4 Z h b1 (.int 1) ∧ av2 Z h xa1 xk1 10 [.ref b2, .null, .null, .null, .null, .null, .null, .null, .null, .null] ∧ ex3 Z h xa1 ∧ Ovr Z xk1 "java/lang/Object" ∧ h0.size ≤ xa1 ∧ h.size > xa1
theorem rm_au74 (G : GL l Z a0 zc dce kdce eed keed mroa mral mrul mrur) (F0 : ex2 Z h0 pa1) (F1 : fd3 Z h0 pa1 (.ref dce)) (F2 : fd2 Z h0 pa1 (.int 0)) (F3 : fd4 Z h0 pa1 (.int 0)) (F4 : ex1 Z h0 pa2) (ne : NE pa1 pa2 ∧ n0 ≤ pa1) : M54 l Z 4 1 10 56 #[.ref pa1, .ref pa2] h0 n0 [pa1] [] (Q41 Z pa1 pa2 h0) := by
  refine mi B54 ef4 (hEW G) fun s X0 hsf0 n0le => ?_
  have := F0.l
  have := F4.l
  refine oA 1 X0 d54_0 rfl rfl <| oD 2 X0 d54_1 rfl rfl <| oF 5 X0 (w341 G) (Via.of (w272 G)) F2 d54_2 rfl ?_
  intro _ X2
  refine oc 6 (v := 1) X2 d54_5 rfl (by decide) <| o_iadd 7 (v := 1) X2 d54_6 rfl (by decide) <| oP 10 (v' := (.int 1)) X2 (w341 G) (Via.of (w272 G)) F2 F0 (Or.inl (w68 G)) (w49 G) fd_2 rfl rfl d54_7 rfl (by omega) (Or.inl (by simp)) (sx X2 F0 nc1) ?_
  intro _ _ X3 W3 _
  have := W3.size
  have f4 := F2.same W3
  refine oA 11 X3 d54_10 rfl rfl <| oA 12 X3 d54_11 rfl rfl <| oA 13 X3 d54_12 rfl rfl ?_
  have f5 := F1.other W3 (Or.inr (sn2 G))
  refine oF 16 X3 (w70 G) Via.refl f5 d54_13 rfl ?_
  intro _ X7
  refine oA 17 X7 d54_16 rfl rfl ?_
  have f8 := F3.other W3 (Or.inr (sn3 G))
  refine oF 20 X7 (w94 G) Via.refl f8 d54_17 rfl ?_
  intro _ X10
  have f11 := F0.wr W3
  have f12 := F4.wr W3
  refine mV 23 0 X10 f11 (rm_au73 G f11 f5 f4 f8 f12 (by omega)) (u58 G) all0 d54_20 rfl rfl rfl lr (by decide) (aI (by omega) (by simp) all0) ?_
  rintro _ _ _ _ X13 ⟨xa1_14, xk1_15, rfl, q16, q17, q18, q19, q20, q21, q22, _⟩ _ _ _
  refine sk [] rfl <| oc 24 (v := 1) X13 d54_23 rfl (by decide) ?_
  exact o_nret (y := (1 : Int32)) (t := .boolean) X13 d54_24 rfl (by decide) (by simp) (by decide) (by decide) (fun _ CC => ⟨xa1_14, xk1_15, rfl, q16, q17, q18, q19, q20, q21, q22, by omega⟩)
def Q42 (Z : State) (b1 : Addr) (h0 : Heap) (v : Option Value) (h : Heap) (vm : Vm) : Prop := ∃ (xa1 : Addr) (xk1 : ClassId), v = some (.ref xa1) ∧ av2 Z h xa1 xk1 1 [.ref b1] ∧ ex3 Z h xa1 ∧ Ovr Z xk1 "java/lang/Object" ∧ h0.size ≤ xa1 ∧ h.size > xa1
theorem rm_au75 (G : GL l Z a0 zc dce kdce eed keed mroa mral mrul mrur) (F0 : av2 Z h0 pa1 pk1 10 [.ref pa2, .null, .null, .null, .null, .null, .null, .null, .null, .null]) (F1 : ex1 Z h0 pa2) : M18 l Z 1 1 1 40 #[.ref pa1, .int 1, .ref mroa] h0 n0 [] [] (Q42 Z pa2 h0) := by
  refine mi B18 ef12 (hEW G) fun s X0 hsf0 n0le => ?_
  have := F0.l
  have := F1.l
  refine oA 1 X0 d18_0 rfl rfl <| o_ldcK 3 X0 (w109 G) (sg5 G) d18_1 rfl ?_
  intro _ X2
  refine o_acmp 6 (same := true) X2 d18_3 rfl rfl (decide_eq_true rfl) (by decide) (by decide) <| oI 7 X2 d18_6 rfl rfl <| o_newR 10 (cap := 1) X2 (w110 G) (w111 G) d18_7 rfl (by decide) (by decide) (by decide) (by decide) (by decide) (ad := "[Ljava/lang/Object;") (by decide +kernel) ?_
  intro _ h3 b3 k3 X3 _ _ E3 V3 O3 A3 _ _
  have V4 : av2 Z h3 b3 k3 1 [.null] := V3.pad (pad_rep [] .null 1)
  refine og 24 X3 d18_10 (by decide) <| oV 25 (l' := #[rr pa1, ii 1, rr mroa, rr b3]) X3 d18_24 rfl rfl rfl <| oA 26 X3 d18_25 rfl rfl <| oc 27 (v := 0) X3 d18_26 rfl (by decide) <| oA 28 X3 d18_27 rfl rfl <| oc 29 (v := 0) X3 d18_28 rfl (by decide) <| oA 30 X3 d18_29 rfl rfl ?_
  have f5 := F0.ext E3
  refine oL 31 X3 f5 d18_30 rfl <| oI 32 X3 d18_31 rfl rfl <| mS 35 4 X3 (rm_au55 G (by decide)) (u13 G) all0 d18_32 rfl rfl rfl lr (by decide) all0 ?_
  rintro _ _ _ _ X6 rfl K6 _ _
  refine sk [.int 1, i0, .ref b3, i0, .ref pa1] rfl ?_
  have f7 := f5.k0 K6
  have f8 := V4.k0 K6
  have f9 := (F1.ext E3).keep K6
  have f10 := A3.keep K6
  refine o_cp 38 (us := [.ref pa2]) (vr := [.ref pa2]) (W := 0) X6 (w116 G) (w119 G) (w117 G) (w118 G) f7 f8 (Or.inr ⟨rfl, rfl, ⟨(own_sto f8 O3 f9 (w361 G)), trivial⟩⟩) (by decide) (by decide) (by decide) (by decide) (by decide) rfl (Nat.le_of_ble_eq_true rfl) rfl d18_35 rfl rfl (by decide) (Nat.le_of_eq rfl) (by decide) (by omega) (Or.inr (by omega)) (sx X6 f10 nc3) ?_
  intro _ _ X11 K11 _ V11
  have := K11.1
  refine oA 39 X11 d18_38 rfl rfl ?_
  have f12 := f10.keep K11
  exact oR X11 d18_39 rfl rfl rfl (by decide) (by decide) (fun _ CC => ⟨b3, k3, rfl, V11, f12, O3, by omega⟩)
theorem rm_au76 (G : GL l Z a0 zc dce kdce eed keed mroa mral mrul mrur) (F0 : av2 Z h0 pa1 pk1 10 [.ref pa2, .null, .null, .null, .null, .null, .null, .null, .null, .null]) (F1 : ex3 Z h0 pa1) (F2 : ex1 Z h0 pa2) : M17 l Z 2 1 1 55 #[.ref pa1, .int 1] h0 n0 [] [] (Q42 Z pa2 h0) := by
  refine mi B17 ef8 (hEW G) fun s X0 hsf0 n0le => ?_
  have := F0.l
  have := F2.l
  refine oA 1 X0 d17_0 rfl rfl <| oI 2 X0 d17_1 rfl rfl <| oA 3 X0 d17_2 rfl rfl <| o_gcV 6 (W := 2) X0 (w100 G) (w101 G) (nf_sel (w103 G)) (w103 G) (w102 G) (w104 G) F1 (sg5 G) rfl (by decide) (Nat.le_of_eq rfl) (by decide) d17_3 rfl ?_
  intro _ X2
  refine mS 9 0 X2 (rm_au75 G F0 F2) (u14 G) all0 d17_6 rfl rfl rfl lr (by decide) all0 ?_
  rintro _ _ _ _ X3 ⟨xa1_4, xk1_5, rfl, q6, q7, q8, _⟩ _ _ _
  refine sk [.ref xa1_4] rfl ?_
  exact oR X3 d17_9 rfl rfl rfl (by decide) (by decide) (fun _ CC => ⟨xa1_4, xk1_5, rfl, q6, q7, q8, by omega⟩)
theorem rm_au77 (G : GL l Z a0 zc dce kdce eed keed mroa mral mrul mrur) (F0 : fd3 Z h0 pa1 (.ref pa2)) (F1 : fd4 Z h0 pa1 (.int 1)) (F2 : av2 Z h0 pa2 pk1 10 [.ref pa3, .null, .null, .null, .null, .null, .null, .null, .null, .null]) (F3 : ex3 Z h0 pa2) (F4 : ex1 Z h0 pa3) : M16 l Z 3 1 1 68 #[.ref pa1] h0 n0 [] [] (Q42 Z pa3 h0) := by
  refine mi B16 ef9 (hEW G) fun s X0 hsf0 n0le => ?_
  have := F0.l
  have := F2.l
  have := F4.l
  refine oA 1 X0 d16_0 rfl rfl <| oF 4 X0 (w70 G) Via.refl F0 d16_1 rfl ?_
  intro _ X2
  refine oA 5 X2 d16_4 rfl rfl <| oF 8 X2 (w94 G) Via.refl F1 d16_5 rfl ?_
  intro _ X4
  refine mS 11 0 X4 (rm_au76 G F2 F3 F4) (u15 G) all0 d16_8 rfl rfl rfl lr (by decide) all0 ?_
  rintro _ _ _ _ X5 ⟨xa1_6, xk1_7, rfl, q8, q9, q10, _⟩ _ _ _
  refine sk [.ref xa1_6] rfl ?_
  exact oR X5 d16_11 rfl rfl rfl (by decide) (by decide) (fun _ CC => ⟨xa1_6, xk1_7, rfl, q8, q9, q10, by omega⟩)
def Q43 (Z : State) (b1 b2 : Addr) (h0 : Heap) (v : Option Value) (h : Heap) (vm : Vm) : Prop := ∃ (xa1 : Addr) (xk1 : ClassId), v = none ∧ ex2 Z h b1 ∧ fd3 Z h b1 (.ref xa1) ∧ fd2 Z h b1 (.int 0) ∧ fd4 Z h b1 (.int 1) ∧ av2 Z h xa1 xk1 1 [.ref b2] ∧ ex3 Z h xa1 ∧ Ovr Z xk1 "java/lang/Object" ∧ h0.size ≤ xa1 ∧ h.size > xa1
theorem rm_au78 (G : GL l Z a0 zc dce kdce eed keed mroa mral mrul mrur) (F0 : ex2 Z h0 pa1) (F1 : fd3 Z h0 pa1 .null) (F2 : fd2 Z h0 pa1 (.int 0)) (F3 : fd4 Z h0 pa1 (.int 0)) (F4 : ex2 Z h0 pa2) (F5 : fd3 Z h0 pa2 (.ref pa3)) (F6 : fd4 Z h0 pa2 (.int 1)) (F7 : av2 Z h0 pa3 pk1 10 [.ref pa4, .null, .null, .null, .null, .null, .null, .null, .null, .null]) (F8 : ex3 Z h0 pa3) (F9 : ex1 Z h0 pa4) (ne : NE pa1 pa2 ∧ NE pa1 pa3 ∧ NE pa1 pa4 ∧ n0 ≤ pa1) : M15 l Z 4 1 1 80 #[.ref pa1, .ref pa2] h0 n0 [pa1] [] (Q43 Z pa1 pa4 h0) := by
  refine mi B15 ef11 (hEW G) fun s X0 hsf0 n0le => ?_
  have := F0.l
  have := F4.l
  have := F7.l
  have := F9.l
  refine oA 1 X0 d15_0 rfl rfl <| mP 4 0 X0 (rm_au11 G F0 F1 F2 F3 (by omega)) (u11 G) all0 d15_1 rfl rfl rfl lr (by decide) (aI (by omega) (by simp) all0) ?_
  rintro _ _ _ _ X1 ⟨rfl, q2, q3, q4, q5⟩ K1 _ _
  refine sk [] rfl <| oA 5 X1 d15_4 rfl rfl ?_
  have f6 := F5.k1 K1 (by omega)
  have f7 := F6.k1 K1 (by omega)
  have f8 := F7.k1 K1 (by omega)
  have f9 := F8.keep K1
  have f10 := F9.keep K1
  have f11 := F4.keep K1
  refine mF 10 0 X1 f11 (rm_au77 G f6 f7 f8 f9 f10) (u16 G) all0 d15_5 rfl rfl rfl lr (by decide) all0 ?_
  rintro _ _ _ _ X12 ⟨xa1_13, xk1_14, rfl, q15, q16, q17, _⟩ K12 _ _
  refine sk [.ref xa1_13] rfl <| oV 11 (l' := #[rr pa1, rr pa2, rr xa1_13]) X12 d15_10 rfl rfl rfl <| oA 12 X12 d15_11 rfl rfl <| oA 13 X12 d15_12 rfl rfl <| oL 14 X12 q15 d15_13 rfl <| o_dupX1 15 X12 d15_14 rfl rfl rfl ?_
  have f19 := q5.k0 K12
  have f20 := q2.keep K12
  refine oP 18 (v' := (.int 1)) X12 (w94 G) Via.refl f19 f20 (Or.inl (w95 G)) (w49 G) fd_2 rfl rfl d15_15 rfl (by omega) (Or.inl (by simp)) (sx X12 f20 nc1) ?_
  intro _ _ X21 W21 _
  have := W21.size
  have f22 := f19.same W21
  refine on 21 X21 d15_18 rfl ((if0 _ _).trans (feq (by decide)).1) <| oA 22 X21 d15_21 rfl rfl ?_
  have f23 := (f11.keep K12).wr W21
  refine o_gcI 27 (W := 0) X21 (w362 G) (w101 G) (w363 G) (w364 G) (w102 G) (w128 G) (w129 G) (w92 G) (w104 G) (by decide) (by decide) rfl rfl f23 (sg4 G) rfl (by decide) (Nat.le_of_eq rfl) (by decide) d15_22 rfl ?_
  intro _ X25
  refine o_ldcK 29 X25 (w365 G) (sg4 G) d15_27 rfl ?_
  intro _ X27
  refine o_acmp 32 (same := true) X27 d15_29 rfl rfl (decide_eq_true rfl) (by decide) (by decide) <| oA 33 X27 d15_32 rfl rfl <| oA 34 X27 d15_33 rfl rfl ?_
  have f28 := (q3.k0 K12).other W21 (Or.inr (sn6 G))
  have f29 := f20.wr W21
  refine oP 37 (v' := (.ref xa1_13)) X27 (w70 G) Via.refl f28 f29 (Or.inl (w71 G)) (w49 G) fd_3 rfl rfl d15_34 rfl (by omega) (Or.inl (by simp)) (sx X27 f29 nc1) ?_
  intro _ _ X30 W30 _
  have := W30.size
  have f31 := f28.same W30
  refine og 64 X30 d15_37 (by decide) ?_
  have f32 := f29.wr W30
  have f33 := ((q4.k0 K12).other W21 (Or.inr (sn7 G))).other W30 (Or.inr (sn4 G))
  have f34 := f22.other W30 (Or.inr (sn5 G))
  have f35 := (q15.oth W21 (by omega)).oth W30 (by omega)
  have f36 := (q16.wr W21).wr W30
  exact oz X30 d15_64 rfl (by decide) (by decide) (fun _ CC => ⟨xa1_13, xk1_14, rfl, f32, f31, f33, f34, f35, f36, q17, by omega⟩)
def Q44 (Z : State) (b1 b2 b3 : Addr) (h0 : Heap) (v : Option Value) (h : Heap) (vm : Vm) : Prop := ∃ (xa1 : Addr) (xa2 : Addr) (xa3 : Addr) (xk1 : ClassId), v = none ∧ ex5 Z h b1 ∧ fd6 Z h b1 (.ref xa1) ∧ fd5 Z h b1 (.ref b2) ∧ ex4 Z h xa1 ∧ fd7 Z h xa1 (.ref xa2) ∧ fd8 Z h xa1 (.ref xa2) ∧ ex2 Z h xa2 ∧ fd3 Z h xa2 (.ref xa3) ∧ fd2 Z h xa2 (.int 0) ∧ fd4 Z h xa2 (.int 1) ∧ av2 Z h xa3 xk1 1 [.ref b3] ∧ ex3 Z h xa3 ∧ Ovr Z xk1 "java/lang/Object" ∧ h0.size ≤ xa1 ∧ h.size > xa1 ∧ h0.size ≤ xa2 ∧ h.size > xa2 ∧ NE xa1 xa2 ∧ h0.size ≤ xa3 ∧ h.size > xa3 ∧ NE xa1 xa3 ∧ NE xa2 xa3
theorem rm_au79 (G : GL l Z a0 zc dce kdce eed keed mroa mral mrul mrur) (F0 : ex5 Z h0 pa1) (F1 : fd6 Z h0 pa1 .null) (F2 : fd5 Z h0 pa1 .null) (F3 : ex2 Z h0 pa3) (F4 : fd3 Z h0 pa3 (.ref pa5)) (F5 : fd4 Z h0 pa3 (.int 1)) (F6 : av2 Z h0 pa5 pk2 10 [.ref pa6, .null, .null, .null, .null, .null, .null, .null, .null, .null]) (F7 : ex3 Z h0 pa5) (F8 : ex1 Z h0 pa6) (ne : NE pa1 pa3 ∧ NE pa1 pa5 ∧ NE pa1 pa6 ∧ n0 ≤ pa1) : M14 l Z 5 3 6 96 #[.ref pa1, .ref pa2, .ref pa3] h0 n0 [pa1] [] (Q44 Z pa1 pa2 pa6 h0) := by
  refine mi B14 ef10 (hEW G) fun s X0 hsf0 n0le => ?_
  have := F0.l
  have := F3.l
  have := F6.l
  have := F8.l
  refine oA 1 X0 d14_0 rfl rfl <| o_initO 4 (W := 0) X0 (w78 G) (w20 G) (w21 G) rfl (by decide) (Nat.le_of_eq rfl) (by decide) d14_1 rfl ?_
  intro _ X2
  refine oA 5 X2 d14_4 rfl rfl <| oA 6 X2 d14_5 rfl rfl <| oP 9 (v' := (.ref pa2)) X2 (w79 G) Via.refl F2 F0 (Or.inr ⟨(w80 G), rfl, rfl⟩) (w73 G) fd_4 rfl rfl d14_6 rfl (by omega) (Or.inl (by simp)) (sx X2 F0 nc2) ?_
  intro _ _ X3 W3 _
  have := W3.size
  have f4 := F2.same W3
  refine oA 10 X3 d14_9 rfl rfl <| o_new 13 X3 (w81 G) (w49 G) (w50 G) d14_10 rfl (by decide) (by decide) ?_
  intro _ h5 b5 X5 _ _ E5 A5 D5 _ _ _
  have f6 : fd2 Z h5 b5 (.int 0) := D5 (Or.inl (w68 G)) fd_2
  have f7 : fd3 Z h5 b5 .null := D5 (Or.inl (w71 G)) fd_3
  have f8 : fd4 Z h5 b5 (.int 0) := D5 (Or.inl (w95 G)) fd_2
  refine oD 14 X5 d14_13 rfl rfl <| oA 15 X5 d14_14 rfl rfl ?_
  have f9 := (F3.wr W3).ext E5
  have f10 := (F4.oth W3 (by omega)).ext E5
  have f11 := (F5.oth W3 (by omega)).ext E5
  have f12 := (F6.oth W3 (by omega)).ext E5
  have f13 := (F7.wr W3).ext E5
  have f14 := (F8.wr W3).ext E5
  refine mP 18 2 X5 (rm_au78 G A5 f7 f6 f8 f9 f10 f11 f12 f13 f14 (by omega)) (u17 G) all0 d14_15 rfl rfl rfl lr (by decide) (aR (by omega) all0) ?_
  rintro _ _ _ _ X15 ⟨xa1_16, xk1_17, rfl, q18, q19, q20, q21, q22, q23, q24, _⟩ K15 _ _
  refine sk [.ref b5, .ref pa1] rfl <| mS 21 1 X15 (rm_au21 G q18) (u21 G) all0 d14_18 rfl rfl rfl lr (by decide) all0 ?_
  rintro _ _ _ _ X26 ⟨xa1_27, rfl, q28, q29, q30, _⟩ K26 _ _
  refine sk [.ref xa1_27, .ref pa1] rfl ?_
  have f32 := (((F1.other W3 (Or.inr (sn10 G))).ext E5).k1 K15 (by omega)).k0 K26
  have f33 := (((F0.wr W3).ext E5).keep K15).keep K26
  refine oP 24 (v' := (.ref xa1_27)) X26 (w161 G) Via.refl f32 f33 (Or.inr ⟨(w162 G), rfl, rfl⟩) (w73 G) fd_5 rfl rfl d14_21 rfl (by omega) (Or.inl (by simp)) (sx X26 f33 nc2) ?_
  intro _ _ X34 W34 _
  have := W34.size
  have f35 := f32.same W34
  have f36 := f33.wr W34
  have f37 := (((f4.ext E5).k1 K15 (by omega)).k0 K26).other W34 (Or.inr (sn11 G))
  have f38 := q28.wr W34
  have f39 := q29.oth W34 (by omega)
  have f40 := q30.oth W34 (by omega)
  have f41 := (q18.keep K26).wr W34
  have f42 := (q19.k0 K26).oth W34 (by omega)
  have f43 := (q20.k0 K26).oth W34 (by omega)
  have f44 := (q21.k0 K26).oth W34 (by omega)
  have f45 := (q22.k0 K26).oth W34 (by omega)
  have f46 := (q23.keep K26).wr W34
  exact oz X34 d14_24 rfl (by decide) (by decide) (fun _ CC => ⟨xa1_27, b5, xa1_16, xk1_17, rfl, f36, f35, f37, f38, f39, f40, f41, f42, f43, f44, f45, f46, q24, by omega⟩)
theorem rm_au80 (G : GL l Z a0 zc dce kdce eed keed mroa mral mrul mrur) (F0 : fd15 Z h0 pa1 (.int pi103)) (F1 : fd12 Z h0 pa1 (.ref pa2)) (F2 : fd4 Z h0 pa2 (.int pi2)) (pc_0 : ¬ pi103 = pi2) : M41 l Z 0 0 0 0 #[.ref pa1] h0 n0 [] [] (Q0 Z  h0) := by
  refine mi B41 ef9 (hEW G) fun s X0 hsf0 n0le => ?_
  have := F0.l
  have := F2.l
  refine oA 1 X0 d41_0 rfl rfl <| oF 4 X0 (w284 G) Via.refl F0 d41_1 rfl ?_
  intro _ X2
  refine oA 5 X2 d41_4 rfl rfl <| oF 8 X2 (w266 G) Via.refl F1 d41_5 rfl ?_
  intro _ X4
  refine o_getFN 11 X4 (w286 G) Via.refl F2 d41_8 rfl ?_
  intro _ X6
  refine oN 14 X6 d41_11 rfl (feq pc_0).1 <| oc 15 (v := 1) X6 d41_14 rfl (by decide) <| og 19 X6 d41_15 (by decide) ?_
  exact o_nret (y := (1 : Int32)) (t := .boolean) X6 d41_19 rfl (by decide) (by simp) (by decide) (by decide) (fun _ CC => rfl)
def Q45 (Z : State) (b1 b2 : Addr) (b3 : ClassId) (h0 : Heap) (v : Option Value) (h : Heap) (vm : Vm) : Prop := v = some (.ref b1) ∧ ex6 Z h b1 ∧ fd10 Z h b1 (.int 0) ∧ fd11 Z h b1 (.int 1) ∧ fd9 Z h b1 (.ref b2) ∧ av0 Z h b2 b3 16 [.int 91, i0, i0, i0, i0, i0, i0, i0, i0, i0, i0, i0, i0, i0, i0, i0] ∧ ex0 Z h b2
theorem rm_au82 (G : GL l Z a0 zc dce kdce eed keed mroa mral mrul mrur) (F0 : ex6 Z h0 pa1) (F1 : fd10 Z h0 pa1 (.int 0)) (F2 : fd11 Z h0 pa1 (.int 0)) (F3 : fd9 Z h0 pa1 (.ref pa2)) (F4 : av0 Z h0 pa2 pk1 16 [i0, i0, i0, i0, i0, i0, i0, i0, i0, i0, i0, i0, i0, i0, i0, i0]) (F5 : ex0 Z h0 pa2) (ne : NE pa1 pa2 ∧ n0 ≤ pa1 ∧ n0 ≤ pa2) : M60 l Z 1 0 0 14 #[.ref pa1, .int 91] h0 n0 [pa1, pa2] [pa2] (Q45 Z pa1 pa2 pk1 h0) := by
  refine mi B60 ef8 (hEW G) fun s X0 hsf0 n0le => ?_
  have := F0.l
  have := F4.l
  have sf_pa2 := hsf0 pa2 (by simp)
  refine oA 1 X0 d60_0 rfl rfl <| oA 2 X0 d60_1 rfl rfl <| oF 5 X0 (w206 G) Via.refl F2 d60_2 rfl ?_
  intro _ X2
  refine oc 6 (v := 1) X2 d60_5 rfl (by decide) <| o_iadd 7 (v := 1) X2 d60_6 rfl (by decide) <| mV 10 0 X2 F0 (rm_au27 G F1 F3 F4 (by decide)) (u27 G) all0 d60_7 rfl rfl rfl lr (by decide) all0 ?_
  rintro _ _ _ _ X3 rfl K3 _ C3
  refine sk [] rfl <| oA 11 X3 d60_10 rfl rfl ?_
  have f4 := F1.k0 K3
  have f5 := F0.keep K3
  refine mV 14 0 X3 f5 (rm_au53 G f4 (by decide)) (u61 G) all0 d60_11 rfl rfl rfl lr (by decide) all0 ?_
  rintro _ _ _ _ X6 rfl K6 _ C6
  refine sk [.int 1] rfl <| on 17 X6 d60_14 rfl ((if0 _ _).trans (feq (by decide)).1) <| oI 18 X6 d60_17 rfl rfl <| mS 21 0 X6 (rm_au0 G (by decide)) (u62 G) all0 d60_18 rfl rfl rfl lr (by decide) all0 ?_
  rintro _ _ _ _ X7 rfl K7 _ C7
  refine sk [.int 1] rfl <| on 24 X7 d60_21 rfl ((if0 _ _).trans (feq (by decide)).1) <| oA 25 X7 d60_24 rfl rfl ?_
  have f8 := ((F3.k0 K3).k0 K6).k0 K7
  refine oF 28 X7 (w182 G) Via.refl f8 d60_25 rfl ?_
  intro _ X10
  refine oA 29 X10 d60_28 rfl rfl <| oD 30 X10 d60_29 rfl rfl ?_
  have f11 := ((F2.k0 K3).k0 K6).k0 K7
  refine oF 33 X10 (w206 G) Via.refl f11 d60_30 rfl ?_
  intro _ X13
  refine o_dupX1 34 X13 d60_33 rfl rfl rfl <| oc 35 (v := 1) X13 d60_34 rfl (by decide) <| o_iadd 36 (v := 1) X13 d60_35 rfl (by decide) ?_
  have f14 := (f5.keep K6).keep K7
  refine oP 39 (v' := (.int 1)) X13 (w206 G) Via.refl f11 f14 (Or.inl (w207 G)) (w169 G) fd_2 rfl rfl d60_36 rfl (by omega) (Or.inl (by simp)) (sx X13 f14 nc5) ?_
  intro _ _ X15 W15 C15
  have := W15.size
  have f16 := f11.same W15
  refine oI 40 X15 d60_39 rfl rfl <| o_i2b 41 (v := 91) X15 d60_40 rfl (by decide) ?_
  have f17 := (((F4.k0 K3).k0 K6).k0 K7).oth W15 (by omega)
  have f19 := C15.safe (own_lt (by omega)) (C7.safe (own_lt (by omega)) (C6.safe (own_lt (by omega)) (C3.safe (own_lt (by omega)) sf_pa2)))
  refine sB 42 0 91 X15 f17 (by decide) (lb rfl) (by decide) d60_41 rfl (by omega) (Or.inl (by simp)) f19 ?_
  rintro _ _ X18 ⟨_, _, W18⟩ _ V18
  have := W18.size
  have V20 := V18.as [.int 91, i0, i0, i0, i0, i0, i0, i0, i0, i0, i0, i0, i0, i0, i0, i0] rfl
  refine og 75 X18 d60_42 (by decide) <| oA 76 X18 d60_75 rfl rfl ?_
  have f21 := (f14.wr W15).wr W18
  have f22 := (((f4.k0 K6).k0 K7).other W15 (Or.inr (sn16 G))).oth W18 (by omega)
  have f23 := f16.oth W18 (by omega)
  have f24 := (f8.other W15 (Or.inr (sn17 G))).oth W18 (by omega)
  have f25 := ((((F5.keep K3).keep K6).keep K7).wr W15).wr W18
  exact oR X18 d60_76 rfl rfl rfl (by decide) (by decide) (fun _ CC => ⟨rfl, f21, f22, f23, f24, V20, f25⟩)
theorem rm_au83 (G : GL l Z a0 zc dce kdce eed keed mroa mral mrul mrur) (F0 : ex6 Z h0 pa1) (F1 : fd10 Z h0 pa1 (.int 0)) (F2 : fd11 Z h0 pa1 (.int 0)) (F3 : fd9 Z h0 pa1 (.ref pa2)) (F4 : av0 Z h0 pa2 pk1 16 [i0, i0, i0, i0, i0, i0, i0, i0, i0, i0, i0, i0, i0, i0, i0, i0]) (F5 : ex0 Z h0 pa2) (ne : NE pa1 pa2 ∧ n0 ≤ pa1 ∧ n0 ≤ pa2) : M59 l Z 2 0 0 27 #[.ref pa1, .int 91] h0 n0 [pa1, pa2] [pa2] (Q45 Z pa1 pa2 pk1 h0) := by
  refine mi B59 ef8 (hEW G) fun s X0 hsf0 n0le => ?_
  have := F0.l
  have := F4.l
  have sf_pa2 := hsf0 pa2 (by simp)
  refine oA 1 X0 d59_0 rfl rfl <| oI 2 X0 d59_1 rfl rfl <| mU 5 0 X0 F0 (rm_au82 G F0 F1 F2 F3 F4 F5 (by omega)) (u63 G) (sS (by omega) sf_pa2 all0) d59_2 rfl rfl rfl lr (by decide) (aI (by omega) (by simp) (aI (by omega) (by simp) all0)) ?_
  rintro _ _ _ _ X1 ⟨rfl, q2, q3, q4, q5, q6, q7⟩ _ _ _
  refine sk [.ref pa1] rfl <| o_pop 6 X1 d59_5 rfl rfl <| oA 7 X1 d59_6 rfl rfl ?_
  exact oR X1 d59_7 rfl rfl rfl (by decide) (by decide) (fun _ CC => ⟨rfl, q2, q3, q4, q5, q6, q7⟩)
theorem rm_au84 (G : GL l Z a0 zc dce kdce eed keed mroa mral mrul mrur) (F0 : fd14 Z h0 pa1 (.int pi2)) (F1 : fd12 Z h0 pa1 (.ref pa2)) (F2 : fd2 Z h0 pa2 (.int pi2)) : M62 l Z 0 0 0 0 #[.ref pa1] h0 n0 [] [] (Q9 Z  h0) := by
  refine mi B62 ef9 (hEW G) fun s X0 hsf0 n0le => ?_
  have := F0.l
  have := F2.l
  refine oA 1 X0 d62_0 rfl rfl <| oF 4 X0 (w266 G) Via.refl F1 d62_1 rfl ?_
  intro _ X2
  refine oF 7 X2 (w271 G) (Via.of (w272 G)) F2 d62_4 rfl ?_
  intro _ X4
  refine oA 8 X4 d62_7 rfl rfl <| oF 11 X4 (w273 G) Via.refl F0 d62_8 rfl ?_
  intro _ X6
  refine oY 22 X6 d62_11 (by decide) (teq rfl).1 ?_
  exact oz X6 d62_22 rfl (by decide) (by decide) (fun _ CC => rfl)
def Q46 (Z : State) (b1 b2 : Addr) (b3 : Int32) (b4 : Addr) (h0 : Heap) (v : Option Value) (h : Heap) (vm : Vm) : Prop := v = some (.ref b1) ∧ ex7 Z h b2 ∧ fd15 Z h b2 (.int 1) ∧ fd14 Z h b2 (.int b3) ∧ fd13 Z h b2 (.int 0) ∧ fd12 Z h b2 (.ref b4)
theorem rm_au85 (G : GL l Z a0 zc dce kdce eed keed mroa mral mrul mrur) (F0 : ex7 Z h0 pa1) (F1 : fd15 Z h0 pa1 (.int 0)) (F2 : fd14 Z h0 pa1 (.int pi1)) (F3 : fd13 Z h0 pa1 (.int (-1))) (F4 : fd12 Z h0 pa1 (.ref pa2)) (F5 : fd3 Z h0 pa2 (.ref pa3)) (F6 : fd2 Z h0 pa2 (.int pi1)) (F7 : fd4 Z h0 pa2 (.int pi2)) (F8 : av2 Z h0 pa3 pk1 1 [.ref pa4]) (pc_0 : (0 : Int32) < pi2) (ne : NE pa1 pa2 ∧ NE pa1 pa3 ∧ n0 ≤ pa1) : M61 l Z 1 0 0 12 #[.ref pa1] h0 n0 [pa1] [] (Q46 Z pa4 pa1 pi1 pa2 h0) := by
  refine mi B61 ef23 (hEW G) fun s X0 hsf0 n0le => ?_
  have := F0.l
  have := F5.l
  have := F8.l
  refine oA 1 X0 d61_0 rfl rfl <| mV 4 0 X0 F0 (rm_au84 G F2 F4 F6) (u65 G) all0 d61_1 rfl rfl rfl lr (by decide) all0 ?_
  rintro _ _ _ _ X1 rfl K1 _ _
  refine sk [] rfl <| oA 5 X1 d61_4 rfl rfl ?_
  have f2 := F1.k0 K1
  refine oF 8 X1 (w284 G) Via.refl f2 d61_5 rfl ?_
  intro _ X4
  refine oT 9 (l' := #[rr pa1, ii 0, uu]) X4 d61_8 rfl rfl <| oI 10 X4 d61_9 rfl rfl <| oA 11 X4 d61_10 rfl rfl ?_
  have f5 := F4.k0 K1
  refine oF 14 X4 (w266 G) Via.refl f5 d61_11 rfl ?_
  intro _ X7
  have f8 := F7.k0 K1
  refine o_getFN 17 X7 (w286 G) Via.refl f8 d61_14 rfl ?_
  intro _ X10
  refine oY 28 X10 d61_17 (by decide) (tlt pc_0).1 <| oA 29 X10 d61_28 rfl rfl <| oF 32 X10 (w266 G) Via.refl f5 d61_29 rfl ?_
  intro _ X12
  have f13 := F5.k0 K1
  refine oF 35 X12 (w393 G) Via.refl f13 d61_32 rfl ?_
  intro _ X15
  refine oV 36 (l' := #[rr pa1, ii 0, rr pa3]) X15 d61_35 rfl rfl rfl <| oI 37 X15 d61_36 rfl rfl <| oA 38 X15 d61_37 rfl rfl ?_
  have f16 := F8.k0 K1
  refine oL 39 X15 f16 d61_38 rfl <| oY 50 X15 d61_39 (by decide) (tlt (by decide)).1 <| oA 51 X15 d61_50 rfl rfl <| oI 52 X15 d61_51 rfl rfl <| oc 53 (v := 1) X15 d61_52 rfl (by decide) <| o_iadd 54 (v := 1) X15 d61_53 rfl (by decide) ?_
  have f17 := F0.keep K1
  refine oP 57 (v' := (.int 1)) X15 (w284 G) Via.refl f2 f17 (Or.inl (w285 G)) (w260 G) fd_2 rfl rfl d61_54 rfl (by omega) (Or.inl (by simp)) (sx X15 f17 nc6) ?_
  intro _ _ X18 W18 _
  have := W18.size
  have f19 := f2.same W18
  refine oA 58 X18 d61_57 rfl rfl <| oA 59 X18 d61_58 rfl rfl <| oI 60 X18 d61_59 rfl rfl <| o_dupX1 61 X18 d61_60 rfl rfl rfl ?_
  have f20 := (F3.k0 K1).other W18 (Or.inr (sn27 G))
  have f21 := f17.wr W18
  refine oP 64 (v' := (.int 0)) X18 (w269 G) Via.refl f20 f21 (Or.inl (w270 G)) (w260 G) fd_2 rfl rfl d61_61 rfl (by omega) (Or.inl (by simp)) (sx X18 f21 nc6) ?_
  intro _ _ X22 W22 _
  have := W22.size
  have f23 := f20.same W22
  have f24 := (f16.oth W18 (by omega)).oth W22 (by omega)
  refine o_aaload 65 (v := (.ref pa4)) X22 f24 rfl ⟨by decide, by decide⟩ rfl d61_64 rfl ?_
  have f25 := f21.wr W22
  have f26 := f19.other W22 (Or.inr (sn23 G))
  have f27 := ((F2.k0 K1).other W18 (Or.inr (sn28 G))).other W22 (Or.inr (sn21 G))
  have f28 := (f5.other W18 (Or.inr (sn29 G))).other W22 (Or.inr (sn19 G))
  exact oR X22 d61_65 rfl rfl rfl (by decide) (by decide) (fun _ CC => ⟨rfl, f25, f26, f27, f23, f28⟩)
theorem rm_au86 (G : GL l Z a0 zc dce kdce eed keed mroa mral mrul mrur)  : M63 l Z 0 0 0 0 #[.ref pa1] h0 n0 [] [] (Q31 Z pa1 h0) := by
  refine mi B63 ef9 (hEW G) fun s X0 hsf0 n0le => ?_
  refine oA 1 X0 d63_0 rfl rfl ?_
  exact oR X0 d63_1 rfl rfl rfl (by decide) (by decide) (fun _ CC => rfl)
theorem rm_au87 (G : GL l Z a0 zc dce kdce eed keed mroa mral mrul mrur) (F0 : ex1 Z h0 pa1) : M36 l Z 1 0 0 12 #[.ref pa1] h0 n0 [] [] (Q31 Z pa1 h0) := by
  refine mi B36 ef9 (hEW G) fun s X0 hsf0 n0le => ?_
  have := F0.l
  refine oA 1 X0 d36_0 rfl rfl <| ifnonnullYesJ 10 X0 d36_1 (by decide) <| oA 11 X0 d36_10 rfl rfl <| mV 14 0 X0 F0 (rm_au86 G ) (u67 G) all0 d36_11 rfl rfl rfl lr (by decide) all0 ?_
  rintro _ _ _ _ X1 rfl _ _ _
  refine sk [.ref pa1] rfl ?_
  exact oR X1 d36_14 rfl rfl rfl (by decide) (by decide) (fun _ CC => rfl)
def Q47 (Z : State) (b1 b2 : Addr) (b3 : ClassId) (b4 : Int32) (h0 : Heap) (v : Option Value) (h : Heap) (vm : Vm) : Prop := v = some (.ref b1) ∧ ex6 Z h b1 ∧ fd10 Z h b1 (.int 0) ∧ fd11 Z h b1 (.int 2) ∧ fd9 Z h b1 (.ref b2) ∧ av0 Z h b2 b3 16 [.int 91, .int b4, i0, i0, i0, i0, i0, i0, i0, i0, i0, i0, i0, i0, i0, i0] ∧ ex0 Z h b2
theorem rm_au88 (G : GL l Z a0 zc dce kdce eed keed mroa mral mrul mrur) (F0 : ex6 Z h0 pa1) (F1 : fd10 Z h0 pa1 (.int 0)) (F2 : fd11 Z h0 pa1 (.int 1)) (F3 : fd9 Z h0 pa1 (.ref pa3)) (F4 : ex1 Z h0 pa2) (F5 : fd1 Z h0 pa2 (.int 0)) (F6 : fd0 Z h0 pa2 (.ref pa4)) (F7 : av0 Z h0 pa3 pk1 16 [.int 91, i0, i0, i0, i0, i0, i0, i0, i0, i0, i0, i0, i0, i0, i0, i0]) (F8 : ex0 Z h0 pa3) (F9 : av0 Z h0 pa4 pk2 1 [.int pi1]) (ne : NE pa1 pa2 ∧ NE pa1 pa3 ∧ NE pa1 pa4 ∧ NE pa2 pa3 ∧ NE pa3 pa4 ∧ n0 ≤ pa1 ∧ n0 ≤ pa3) : M35 l Z 5 0 0 96 #[.ref pa1, .ref pa2] h0 n0 [pa1, pa3] [pa3] (Q47 Z pa1 pa3 pk1 pi1 h0) := by
  refine mi B35 ef4 (hEW G) fun s X0 hsf0 n0le => ?_
  have := F0.l
  have := F4.l
  have := F7.l
  have := F9.l
  have sf_pa3 := hsf0 pa3 (by simp)
  refine oA 1 X0 d35_0 rfl rfl <| oA 2 X0 d35_1 rfl rfl <| mS 5 1 X0 (rm_au87 G F4) (u39 G) all0 d35_2 rfl rfl rfl lr (by decide) all0 ?_
  rintro _ _ _ _ X1 rfl K1 _ C1
  refine sk [.ref pa2, .ref pa1] rfl ?_
  have f2 := F0.keep K1
  have f3 := F1.k0 K1
  have f4 := F2.k0 K1
  have f5 := F3.k0 K1
  have f6 := F4.keep K1
  have f7 := F5.k0 K1
  have f8 := F6.k0 K1
  have f9 := F7.k0 K1
  have f10 := F8.keep K1
  have f11 := F9.k0 K1
  have f12 := C1.safe (own_lt (by omega)) sf_pa3
  refine mV 8 0 X1 f2 (rm_au36 G f2 f3 f4 f5 f6 f7 f8 f9 f10 f11 (by omega)) (u40 G) (sS (by omega) f12 all0) d35_5 rfl rfl rfl lr (by decide) (aI (by omega) (by simp) (aI (by omega) (by simp) all0)) ?_
  rintro _ _ _ _ X13 ⟨rfl, q14, q15, q16, q17, q18, q19⟩ _ _ _
  refine sk [.ref pa1] rfl ?_
  exact oR X13 d35_8 rfl rfl rfl (by decide) (by decide) (fun _ CC => ⟨rfl, q14, q15, q16, q17, q18, q19⟩)
def Q48 (Z : State) (b1 b2 : Addr) (b3 : ClassId) (b4 : Int32) (h0 : Heap) (v : Option Value) (h : Heap) (vm : Vm) : Prop := v = some (.ref b1) ∧ ex6 Z h b1 ∧ fd10 Z h b1 (.int 0) ∧ fd11 Z h b1 (.int 3) ∧ fd9 Z h b1 (.ref b2) ∧ av0 Z h b2 b3 16 [.int 91, .int b4, .int 93, i0, i0, i0, i0, i0, i0, i0, i0, i0, i0, i0, i0, i0] ∧ ex0 Z h b2
theorem rm_au89 (G : GL l Z a0 zc dce kdce eed keed mroa mral mrul mrur) (F0 : ex6 Z h0 pa1) (F1 : fd10 Z h0 pa1 (.int 0)) (F2 : fd11 Z h0 pa1 (.int 2)) (F3 : fd9 Z h0 pa1 (.ref pa2)) (F4 : av0 Z h0 pa2 pk1 16 [.int 91, .int pi1, i0, i0, i0, i0, i0, i0, i0, i0, i0, i0, i0, i0, i0, i0]) (F5 : ex0 Z h0 pa2) (ne : NE pa1 pa2 ∧ n0 ≤ pa1 ∧ n0 ≤ pa2) : M60 l Z 1 0 0 14 #[.ref pa1, .int 93] h0 n0 [pa1, pa2] [pa2] (Q48 Z pa1 pa2 pk1 pi1 h0) := by
  refine mi B60 ef8 (hEW G) fun s X0 hsf0 n0le => ?_
  have := F0.l
  have := F4.l
  have sf_pa2 := hsf0 pa2 (by simp)
  refine oA 1 X0 d60_0 rfl rfl <| oA 2 X0 d60_1 rfl rfl <| oF 5 X0 (w206 G) Via.refl F2 d60_2 rfl ?_
  intro _ X2
  refine oc 6 (v := 1) X2 d60_5 rfl (by decide) <| o_iadd 7 (v := 3) X2 d60_6 rfl (by decide) <| mV 10 0 X2 F0 (rm_au27 G F1 F3 F4 (by decide)) (u27 G) all0 d60_7 rfl rfl rfl lr (by decide) all0 ?_
  rintro _ _ _ _ X3 rfl K3 _ C3
  refine sk [] rfl <| oA 11 X3 d60_10 rfl rfl ?_
  have f4 := F1.k0 K3
  have f5 := F0.keep K3
  refine mV 14 0 X3 f5 (rm_au53 G f4 (by decide)) (u61 G) all0 d60_11 rfl rfl rfl lr (by decide) all0 ?_
  rintro _ _ _ _ X6 rfl K6 _ C6
  refine sk [.int 1] rfl <| on 17 X6 d60_14 rfl ((if0 _ _).trans (feq (by decide)).1) <| oI 18 X6 d60_17 rfl rfl <| mS 21 0 X6 (rm_au0 G (by decide)) (u62 G) all0 d60_18 rfl rfl rfl lr (by decide) all0 ?_
  rintro _ _ _ _ X7 rfl K7 _ C7
  refine sk [.int 1] rfl <| on 24 X7 d60_21 rfl ((if0 _ _).trans (feq (by decide)).1) <| oA 25 X7 d60_24 rfl rfl ?_
  have f8 := ((F3.k0 K3).k0 K6).k0 K7
  refine oF 28 X7 (w182 G) Via.refl f8 d60_25 rfl ?_
  intro _ X10
  refine oA 29 X10 d60_28 rfl rfl <| oD 30 X10 d60_29 rfl rfl ?_
  have f11 := ((F2.k0 K3).k0 K6).k0 K7
  refine oF 33 X10 (w206 G) Via.refl f11 d60_30 rfl ?_
  intro _ X13
  refine o_dupX1 34 X13 d60_33 rfl rfl rfl <| oc 35 (v := 1) X13 d60_34 rfl (by decide) <| o_iadd 36 (v := 3) X13 d60_35 rfl (by decide) ?_
  have f14 := (f5.keep K6).keep K7
  refine oP 39 (v' := (.int 3)) X13 (w206 G) Via.refl f11 f14 (Or.inl (w207 G)) (w169 G) fd_2 rfl rfl d60_36 rfl (by omega) (Or.inl (by simp)) (sx X13 f14 nc5) ?_
  intro _ _ X15 W15 C15
  have := W15.size
  have f16 := f11.same W15
  refine oI 40 X15 d60_39 rfl rfl <| o_i2b 41 (v := 93) X15 d60_40 rfl (by decide) ?_
  have f17 := (((F4.k0 K3).k0 K6).k0 K7).oth W15 (by omega)
  have f19 := C15.safe (own_lt (by omega)) (C7.safe (own_lt (by omega)) (C6.safe (own_lt (by omega)) (C3.safe (own_lt (by omega)) sf_pa2)))
  refine sB 42 2 93 X15 f17 (by decide) (lb rfl) (by decide) d60_41 rfl (by omega) (Or.inl (by simp)) f19 ?_
  rintro _ _ X18 ⟨_, _, W18⟩ _ V18
  have := W18.size
  have V20 := V18.as [.int 91, .int pi1, .int 93, i0, i0, i0, i0, i0, i0, i0, i0, i0, i0, i0, i0, i0] rfl
  refine og 75 X18 d60_42 (by decide) <| oA 76 X18 d60_75 rfl rfl ?_
  have f21 := (f14.wr W15).wr W18
  have f22 := (((f4.k0 K6).k0 K7).other W15 (Or.inr (sn16 G))).oth W18 (by omega)
  have f23 := f16.oth W18 (by omega)
  have f24 := (f8.other W15 (Or.inr (sn17 G))).oth W18 (by omega)
  have f25 := ((((F5.keep K3).keep K6).keep K7).wr W15).wr W18
  exact oR X18 d60_76 rfl rfl rfl (by decide) (by decide) (fun _ CC => ⟨rfl, f21, f22, f23, f24, V20, f25⟩)
theorem rm_au90 (G : GL l Z a0 zc dce kdce eed keed mroa mral mrul mrur) (F0 : ex6 Z h0 pa1) (F1 : fd10 Z h0 pa1 (.int 0)) (F2 : fd11 Z h0 pa1 (.int 2)) (F3 : fd9 Z h0 pa1 (.ref pa2)) (F4 : av0 Z h0 pa2 pk1 16 [.int 91, .int pi1, i0, i0, i0, i0, i0, i0, i0, i0, i0, i0, i0, i0, i0, i0]) (F5 : ex0 Z h0 pa2) (ne : NE pa1 pa2 ∧ n0 ≤ pa1 ∧ n0 ≤ pa2) : M59 l Z 2 0 0 27 #[.ref pa1, .int 93] h0 n0 [pa1, pa2] [pa2] (Q48 Z pa1 pa2 pk1 pi1 h0) := by
  refine mi B59 ef8 (hEW G) fun s X0 hsf0 n0le => ?_
  have := F0.l
  have := F4.l
  have sf_pa2 := hsf0 pa2 (by simp)
  refine oA 1 X0 d59_0 rfl rfl <| oI 2 X0 d59_1 rfl rfl <| mU 5 0 X0 F0 (rm_au89 G F0 F1 F2 F3 F4 F5 (by omega)) (u63 G) (sS (by omega) sf_pa2 all0) d59_2 rfl rfl rfl lr (by decide) (aI (by omega) (by simp) (aI (by omega) (by simp) all0)) ?_
  rintro _ _ _ _ X1 ⟨rfl, q2, q3, q4, q5, q6, q7⟩ _ _ _
  refine sk [.ref pa1] rfl <| o_pop 6 X1 d59_5 rfl rfl <| oA 7 X1 d59_6 rfl rfl ?_
  exact oR X1 d59_7 rfl rfl rfl (by decide) (by decide) (fun _ CC => ⟨rfl, q2, q3, q4, q5, q6, q7⟩)
def Q49 (Z : State) (b1 : Int32) (h0 : Heap) (v : Option Value) (h : Heap) (vm : Vm) : Prop := ∃ (xa1 : Addr) (xk1 : ClassId), v = some (.ref xa1) ∧ av0 Z h xa1 xk1 3 [.int 91, .int b1, .int 93] ∧ ex0 Z h xa1 ∧ Safe Z EL0 vm h xa1 ∧ h0.size ≤ xa1 ∧ h.size > xa1
theorem rm_au91 (G : GL l Z a0 zc dce kdce eed keed mroa mral mrul mrur) (F0 : av0 Z h0 pa1 pk1 16 [.int 91, .int pi1, .int 93, i0, i0, i0, i0, i0, i0, i0, i0, i0, i0, i0, i0, i0]) : M50 l Z 1 1 3 40 #[.ref pa1, i0, .int 3] h0 n0 [] [] (Q49 Z pi1 h0) := by
  refine mi B50 ef20 (hEW G) fun s X0 hsf0 n0le => ?_
  have := F0.l
  refine oI 1 X0 d50_0 rfl rfl <| oI 2 X0 d50_1 rfl rfl <| mS 5 0 X0 (rm_au54 G (by decide)) (u46 G) all0 d50_2 rfl rfl rfl lr (by decide) all0 ?_
  rintro _ _ _ _ X1 rfl K1 _ _
  refine sk [] rfl <| oI 6 X1 d50_5 rfl rfl <| oI 7 X1 d50_6 rfl rfl <| o_isub 8 (v := 3) X1 d50_7 rfl (by decide) <| oT 9 (l' := #[rr pa1, ii 0, ii 3, ii 3, uu]) X1 d50_8 rfl rfl <| oI 10 X1 d50_9 rfl rfl <| nP (aty := .byte) 12 3 X1 (w14 G) d50_10 rfl (by decide) had_byte ?_
  intro _ h2 b2 k2 X2 _ _ E2 V2 A2 _ S2
  have V3 : av0 Z h2 b2 k2 3 [i0, i0, i0] := V2.pad (pad_rep [] (.int (0 : Int32)) 3)
  refine oU 14 (l' := #[rr pa1, ii 0, ii 3, ii 3, rr b2]) X2 d50_12 rfl rfl rfl <| oA 15 X2 d50_14 rfl rfl <| oI 16 X2 d50_15 rfl rfl <| oa 18 X2 d50_16 rfl rfl <| oc 19 (v := 0) X2 d50_18 rfl (by decide) <| oA 20 X2 d50_19 rfl rfl ?_
  have f4 := (F0.k0 K1).ext E2
  refine oL 21 X2 f4 d50_20 rfl <| oI 22 X2 d50_21 rfl rfl <| o_isub 23 (v := 16) X2 d50_22 rfl (by decide) <| oI 24 X2 d50_23 rfl rfl <| mS 27 4 X2 (rm_au55 G (by decide)) (u13 G) all0 d50_24 rfl rfl rfl lr (by decide) all0 ?_
  rintro _ _ _ _ X5 rfl K5 _ C5
  refine sk [.int 3, i0, .ref b2, i0, .ref pa1] rfl ?_
  have f6 := f4.k0 K5
  have f7 := V3.k0 K5
  have f8 := C5.safe (own_lt (by omega)) S2
  refine o_cp 30 (us := [.int 91, .int pi1, .int 93]) (vr := [.int 91, .int pi1, .int 93]) (W := 0) X5 (w116 G) (w119 G) (w117 G) (w118 G) f6 f7 (Or.inl ⟨rfl, rfl⟩) (by decide) (by decide) (by decide) (by decide) (by decide) rfl (Nat.le_of_ble_eq_true rfl) rfl d50_27 rfl rfl (by decide) (Nat.le_of_eq rfl) (by decide) (by omega) (Or.inr (by omega)) f8 ?_
  intro _ _ X9 K9 C9 V9
  have := K9.1
  refine oa 32 X9 d50_30 rfl rfl ?_
  have f10 := (A2.keep K5).keep K9
  have f11 := C9.safe (own_lt (by omega)) f8
  exact oR X9 d50_32 rfl rfl rfl (by decide) (by decide) (fun _ CC => ⟨b2, k2, rfl, V9, f10, (CC.safe (own_lt (by omega)) f11), by omega⟩)
theorem rm_au92 (G : GL l Z a0 zc dce kdce eed keed mroa mral mrul mrur) (F0 : av0 Z h0 pa1 pk1 16 [.int 91, .int pi1, .int 93, i0, i0, i0, i0, i0, i0, i0, i0, i0, i0, i0, i0, i0]) : M49 l Z 2 1 3 56 #[.ref pa1, i0, .int 3] h0 n0 [] [] (Q49 Z pi1 h0) := by
  refine mi B49 ef19 (hEW G) fun s X0 hsf0 n0le => ?_
  have := F0.l
  refine oI 1 X0 d49_0 rfl rfl <| on 4 X0 d49_1 rfl ((if0 _ _).trans (teq (by decide)).2) <| oI 5 X0 d49_4 rfl rfl <| oA 6 X0 d49_5 rfl rfl <| oL 7 X0 F0 d49_6 rfl <| oN 10 X0 d49_7 rfl (feq (by decide)).1 <| oA 11 X0 d49_10 rfl rfl <| oI 12 X0 d49_11 rfl rfl <| oI 13 X0 d49_12 rfl rfl <| mS 16 0 X0 (rm_au91 G F0) (u47 G) all0 d49_13 rfl rfl rfl lr (by decide) all0 ?_
  rintro _ _ _ _ X1 ⟨xa1_2, xk1_3, rfl, q4, q5, q6, _⟩ _ _ _
  refine sk [.ref xa1_2] rfl ?_
  exact oR X1 d49_16 rfl rfl rfl (by decide) (by decide) (fun _ CC => ⟨xa1_2, xk1_3, rfl, q4, q5, (CC.safe (own_lt (by omega)) q6), by omega⟩)
def Q50 (Z : State) (b1 : Addr) (b2 : Int32) (h0 : Heap) (v : Option Value) (h : Heap) (vm : Vm) : Prop := ∃ (xa1 : Addr) (xk1 : ClassId), v = none ∧ ex1 Z h b1 ∧ fd1 Z h b1 (.int 0) ∧ fd0 Z h b1 (.ref xa1) ∧ av0 Z h xa1 xk1 3 [.int 91, .int b2, .int 93] ∧ ex0 Z h xa1 ∧ Safe Z EL0 vm h xa1 ∧ h0.size ≤ xa1 ∧ h.size > xa1
theorem rm_au93 (G : GL l Z a0 zc dce kdce eed keed mroa mral mrul mrur) (F0 : ex1 Z h0 pa1) (F1 : fd1 Z h0 pa1 (.int 0)) (F2 : fd0 Z h0 pa1 .null) (F3 : ex6 Z h0 pa2) (F4 : fd10 Z h0 pa2 (.int 0)) (F5 : fd11 Z h0 pa2 (.int 3)) (F6 : fd9 Z h0 pa2 (.ref pa3)) (F7 : av0 Z h0 pa3 pk1 16 [.int 91, .int pi1, .int 93, i0, i0, i0, i0, i0, i0, i0, i0, i0, i0, i0, i0, i0]) (ne : NE pa1 pa2 ∧ NE pa1 pa3 ∧ n0 ≤ pa1) : M44 l Z 3 1 3 71 #[.ref pa1, .ref pa2, .null] h0 n0 [pa1] [pa1] (Q50 Z pa1 pi1 h0) := by
  refine mi B44 ef18 (hEW G) fun s X0 hsf0 n0le => ?_
  have := F0.l
  have := F3.l
  have := F7.l
  have sf_pa1 := hsf0 pa1 (by simp)
  refine oA 1 X0 d44_0 rfl rfl <| o_initO 4 (W := 0) X0 (w19 G) (w20 G) (w21 G) rfl (by decide) (Nat.le_of_eq rfl) (by decide) d44_1 rfl ?_
  intro _ X2
  refine oA 5 X2 d44_4 rfl rfl <| mV 8 0 X2 F3 (rm_au50 G F6) (u42 G) all0 d44_5 rfl rfl rfl lr (by decide) all0 ?_
  rintro _ _ _ _ X3 rfl K3 _ C3
  refine sk [.ref pa3] rfl <| oV 9 (l' := #[rr pa1, rr pa2, .val .null, rr pa3, uu]) X3 d44_8 rfl rfl rfl <| oA 10 X3 d44_9 rfl rfl ?_
  have f4 := F3.keep K3
  have f5 := F5.k0 K3
  refine mV 13 0 X3 f4 (rm_au52 G f4 f5) (u44 G) all0 d44_10 rfl rfl rfl lr (by decide) all0 ?_
  rintro _ _ _ _ X6 rfl K6 _ C6
  refine sk [.int 3] rfl <| oS 15 (l' := #[rr pa1, rr pa2, .val .null, rr pa3, ii 3]) X6 d44_13 rfl rfl <| oA 16 X6 d44_15 rfl rfl ?_
  have f7 := (F4.k0 K3).k0 K6
  have f8 := f4.keep K6
  refine mV 19 0 X6 f8 (rm_au53 G f7 (by decide)) (u45 G) all0 d44_16 rfl rfl rfl lr (by decide) all0 ?_
  rintro _ _ _ _ X9 rfl K9 _ C9
  refine sk [.int 1] rfl <| on 22 X9 d44_19 rfl ((if0 _ _).trans (feq (by decide)).1) <| oA 23 X9 d44_22 rfl rfl <| oc 24 (v := 0) X9 d44_23 rfl (by decide) ?_
  have f10 := ((F1.k0 K3).k0 K6).k0 K9
  have f11 := ((F0.keep K3).keep K6).keep K9
  have f13 := C9.safe (own_lt (by omega)) (C6.safe (own_lt (by omega)) (C3.safe (own_lt (by omega)) sf_pa1))
  refine oP 27 (v' := (.int 0)) X9 (w24 G) Via.refl f10 f11 (Or.inr ⟨(w25 G), rfl, rfl⟩) (w10 G) fd_1 rfl rfl d44_24 rfl (by omega) (Or.inl (by simp)) f13 ?_
  intro _ _ X12 W12 C12
  have := W12.size
  have f14 := f10.same W12
  refine oA 28 X12 d44_27 rfl rfl <| oA 29 X12 d44_28 rfl rfl <| oc 30 (v := 0) X12 d44_29 rfl (by decide) <| oi 32 X12 d44_30 rfl rfl ?_
  have f15 := (((F7.k0 K3).k0 K6).k0 K9).oth W12 (by omega)
  refine mS 35 1 X12 (rm_au92 G f15) (u48 G) all0 d44_32 rfl rfl rfl lr (by decide) all0 ?_
  rintro _ _ _ _ X16 ⟨xa1_17, xk1_18, rfl, q19, q20, q21, _⟩ K16 _ C16
  refine sk [.ref xa1_17, .ref pa1] rfl ?_
  have f23 := ((((F2.k0 K3).k0 K6).k0 K9).other W12 (Or.inr (sn1 G))).k0 K16
  have f24 := (f11.wr W12).keep K16
  have f26 := C16.safe (own_lt (by omega)) (C12.safe (own_lt (by omega)) f13)
  refine oP 38 (v' := (.ref xa1_17)) X16 (w22 G) Via.refl f23 f24 (Or.inr ⟨(w23 G), rfl, rfl⟩) (w10 G) fd_0 rfl rfl d44_35 rfl (by omega) (Or.inl (by simp)) f26 ?_
  intro _ _ X25 W25 C25
  have := W25.size
  have f27 := f23.same W25
  refine og 97 X25 d44_38 (by decide) ?_
  have f28 := f24.wr W25
  have f29 := (f14.k0 K16).other W25 (Or.inr (sn0 G))
  have f30 := q19.oth W25 (by omega)
  have f31 := q20.wr W25
  have f32 := C25.safe (own_lt (by omega)) q21
  exact oz X25 d44_97 rfl (by decide) (by decide) (fun _ CC => ⟨xa1_17, xk1_18, rfl, f28, f29, f27, f30, f31, (CC.safe (own_lt (by omega)) f32), by omega⟩)
theorem rm_au94 (G : GL l Z a0 zc dce kdce eed keed mroa mral mrul mrur) (F0 : ex1 Z h0 pa1) (F1 : fd1 Z h0 pa1 (.int 0)) (F2 : fd0 Z h0 pa1 .null) (F3 : ex6 Z h0 pa2) (F4 : fd10 Z h0 pa2 (.int 0)) (F5 : fd11 Z h0 pa2 (.int 3)) (F6 : fd9 Z h0 pa2 (.ref pa3)) (F7 : av0 Z h0 pa3 pk1 16 [.int 91, .int pi1, .int 93, i0, i0, i0, i0, i0, i0, i0, i0, i0, i0, i0, i0, i0]) (ne : NE pa1 pa2 ∧ NE pa1 pa3 ∧ n0 ≤ pa1) : M43 l Z 4 1 3 87 #[.ref pa1, .ref pa2] h0 n0 [pa1] [pa1] (Q50 Z pa1 pi1 h0) := by
  refine mi B43 ef4 (hEW G) fun s X0 hsf0 n0le => ?_
  have := F0.l
  have := F3.l
  have := F7.l
  have sf_pa1 := hsf0 pa1 (by simp)
  refine oA 1 X0 d43_0 rfl rfl <| oA 2 X0 d43_1 rfl rfl <| o_aconstNull 3 X0 d43_2 rfl <| mP 6 0 X0 (rm_au93 G F0 F1 F2 F3 F4 F5 F6 F7 (by omega)) (u49 G) (sS (by omega) sf_pa1 all0) d43_3 rfl rfl rfl lr (by decide) (aI (by omega) (by simp) all0) ?_
  rintro _ _ _ _ X1 ⟨xa1_2, xk1_3, rfl, q4, q5, q6, q7, q8, q9, _⟩ _ _ _
  refine sk [] rfl ?_
  exact oz X1 d43_6 rfl (by decide) (by decide) (fun _ CC => ⟨xa1_2, xk1_3, rfl, q4, q5, q6, q7, q8, (CC.safe (own_lt (by omega)) q9), by omega⟩)
def Q51 (Z : State) (b1 : Int32) (h0 : Heap) (v : Option Value) (h : Heap) (vm : Vm) : Prop := ∃ (xa1 : Addr) (xa2 : Addr) (xk1 : ClassId), v = some (.ref xa1) ∧ ex1 Z h xa1 ∧ fd1 Z h xa1 (.int 0) ∧ fd0 Z h xa1 (.ref xa2) ∧ Safe Z EL0 vm h xa1 ∧ av0 Z h xa2 xk1 3 [.int 91, .int b1, .int 93] ∧ ex0 Z h xa2 ∧ Safe Z EL0 vm h xa2 ∧ h0.size ≤ xa1 ∧ h.size > xa1 ∧ h0.size ≤ xa2 ∧ h.size > xa2 ∧ NE xa1 xa2
theorem rm_au95 (G : GL l Z a0 zc dce kdce eed keed mroa mral mrul mrur) (F0 : ex6 Z h0 pa1) (F1 : fd10 Z h0 pa1 (.int 0)) (F2 : fd11 Z h0 pa1 (.int 3)) (F3 : fd9 Z h0 pa1 (.ref pa2)) (F4 : av0 Z h0 pa2 pk1 16 [.int 91, .int pi1, .int 93, i0, i0, i0, i0, i0, i0, i0, i0, i0, i0, i0, i0, i0]) : M42 l Z 5 2 7 101 #[.ref pa1] h0 n0 [] [] (Q51 Z pi1 h0) := by
  refine mi B42 ef9 (hEW G) fun s X0 hsf0 n0le => ?_
  have l1 := F0.l
  have := F4.l
  refine o_new 3 X0 (w294 G) (w10 G) (w2 G) d42_0 rfl (by decide) (by decide) ?_
  intro _ h1 b1 X1 _ l1 E1 A1 D1 _ _ S1
  have f2 : fd0 Z h1 b1 .null := D1 (Or.inr (w23 G)) fd_0
  have f3 : fd1 Z h1 b1 (.int 0) := D1 (Or.inr (w25 G)) fd_1
  refine oD 4 X1 d42_3 rfl rfl <| oA 5 X1 d42_4 rfl rfl ?_
  have f4 := F0.ext E1
  have f5 := F1.ext E1
  have f6 := F2.ext E1
  have f7 := F3.ext E1
  have f8 := F4.ext E1
  refine mP 8 1 X1 (rm_au94 G A1 f3 f2 f4 f5 f6 f7 f8 (by omega)) (u50 G) (sS (by omega) S1 all0) d42_5 rfl rfl rfl lr (by decide) (aR (by omega) all0) ?_
  rintro _ _ _ _ X9 ⟨xa1_10, xk1_11, rfl, q12, q13, q14, q15, q16, q17, _⟩ _ _ C9
  refine sk [.ref b1] rfl ?_
  have f19 := C9.safe (own_lt (by omega)) S1
  exact oR X9 d42_8 rfl rfl rfl (by decide) (by decide) (fun _ CC => ⟨b1, xa1_10, xk1_11, rfl, q12, q13, q14, (CC.safe (own_lt (by omega)) f19), q15, q16, (CC.safe (own_lt (by omega)) q17), by omega⟩)
theorem rm_au96 (G : GL l Z a0 zc dce kdce eed keed mroa mral mrul mrur) (F0 : ex2 Z h0 pa1) (F1 : fd3 Z h0 pa1 (.ref pa2)) (F2 : fd2 Z h0 pa1 (.int 0)) (F3 : fd4 Z h0 pa1 (.int 1)) (F4 : av2 Z h0 pa2 pk1 1 [.ref pa3]) (F5 : ex1 Z h0 pa3) (F6 : fd1 Z h0 pa3 (.int 0)) (F7 : fd0 Z h0 pa3 (.ref pa4)) (F8 : av0 Z h0 pa4 pk2 1 [.int pi1]) (ne : NE pa1 pa3) : M38 l Z 6 5 31 113 #[.ref pa1] h0 n0 [] [] (Q51 Z pi1 h0) := by
  refine mi B38 ef17 (hEW G) fun s X0 hsf0 n0le => ?_
  have := F0.l
  have := F4.l
  have := F5.l
  have := F8.l
  refine oA 1 X0 d38_0 rfl rfl <| mV 4 0 X0 F0 (rm_au38 G F2) (u35 G) all0 d38_1 rfl rfl rfl lr (by decide) all0 ?_
  rintro _ _ _ _ X1 ⟨xa1_2, rfl, q3, q4, q5, q6, q7, _⟩ K1 _ _
  refine sk [.ref xa1_2] rfl <| oV 5 (l' := #[rr pa1, rr xa1_2, uu, uu]) X1 d38_4 rfl rfl rfl <| oA 6 X1 d38_5 rfl rfl ?_
  have f9 := F3.k0 K1
  refine mF 11 0 X1 q3 (rm_au80 G q4 q7 f9 (by decide)) (u36 G) all0 d38_6 rfl rfl rfl lr (by decide) all0 ?_
  rintro _ _ _ _ X10 rfl K10 _ _
  refine sk [.int 1] rfl <| oy 17 X10 d38_11 (by decide) ((if0 _ _).trans (feq (by decide)).2) <| o_new 20 X10 (w366 G) (w169 G) (w170 G) d38_17 rfl (by decide) (by decide) ?_
  intro _ h11 b11 X11 _ _ E11 A11 D11 _ _ _
  have f12 : fd9 Z h11 b11 .null := D11 (Or.inl (w183 G)) fd_0
  have f13 : fd10 Z h11 b11 (.int 0) := D11 (Or.inl (w185 G)) fd_1
  have f14 : fd11 Z h11 b11 (.int 0) := D11 (Or.inl (w207 G)) fd_2
  refine oD 21 X11 d38_20 rfl rfl <| mP 24 1 X11 (rm_au24 G A11 f13 f14 f12 (by omega)) (u60 G) all0 d38_21 rfl rfl rfl lr (by decide) (aR (by omega) all0) ?_
  rintro _ _ _ _ X15 ⟨_, _, rfl, q18, q19, q20, q21, q22, q23, q24, _⟩ K15 _ _
  refine sk [.ref b11] rfl <| oV 25 (l' := #[rr pa1, rr xa1_2, rr b11, uu]) X15 d38_24 rfl rfl rfl <| oA 26 X15 d38_25 rfl rfl <| ob 28 (v := 91) X15 d38_26 rfl (by decide) <| mV 31 0 X15 q18 (rm_au83 G q18 q19 q20 q21 q22 q23 (by omega)) (u64 G) (sS (by omega) q24 all0) d38_28 rfl rfl rfl lr (by decide) (aR (by omega) (aR (by omega) all0)) ?_
  rintro _ _ _ _ X26 ⟨rfl, q27, q28, q29, q30, q31, q32⟩ K26 _ C26
  refine sk [.ref b11] rfl <| o_pop 32 X26 d38_31 rfl rfl <| oA 33 X26 d38_32 rfl rfl ?_
  have f33 := (((q3.keep K10).ext E11).keep K15).keep K26
  have f34 := (((q4.k0 K10).ext E11).k1 K15 (by omega)).k2 K26 (by omega)
  have f35 := (((q5.k0 K10).ext E11).k1 K15 (by omega)).k2 K26 (by omega)
  have f36 := (((q6.k0 K10).ext E11).k1 K15 (by omega)).k2 K26 (by omega)
  have f37 := (((q7.k0 K10).ext E11).k1 K15 (by omega)).k2 K26 (by omega)
  have f38 := ((((F1.k0 K1).k0 K10).ext E11).k1 K15 (by omega)).k2 K26 (by omega)
  have f39 := ((((F2.k0 K1).k0 K10).ext E11).k1 K15 (by omega)).k2 K26 (by omega)
  have f40 := (((f9.k0 K10).ext E11).k1 K15 (by omega)).k2 K26 (by omega)
  have f41 := ((((F4.k0 K1).k0 K10).ext E11).k1 K15 (by omega)).k2 K26 (by omega)
  refine mF 38 0 X26 f33 (rm_au85 G f33 f34 f35 f36 f37 f38 f39 f40 f41 (by decide) (by omega)) (u66 G) all0 d38_33 rfl rfl rfl lr (by decide) (aR (by omega) all0) ?_
  rintro _ _ _ _ X42 ⟨rfl, q43, q44, _, _, q47⟩ K42 _ C42
  refine sk [.ref pa3] rfl <| oV 39 (l' := #[rr pa1, rr xa1_2, rr b11, rr pa3]) X42 d38_38 rfl rfl rfl <| oA 40 X42 d38_39 rfl rfl <| oA 41 X42 d38_40 rfl rfl <| oA 42 X42 d38_41 rfl rfl <| o_acmp 50 (same := false) X42 d38_42 rfl rfl (decide_eq_false (fun q => absurd (Value.ref.inj q) (own_ne (by omega)))) (by decide) (by decide) <| oA 51 X42 d38_50 rfl rfl ?_
  have f48 := q27.keep K42
  have f49 := q28.k1 K42 (by omega)
  have f50 := q29.k1 K42 (by omega)
  have f51 := q30.k1 K42 (by omega)
  have f52 := (((((F5.keep K1).keep K10).ext E11).keep K15).keep K26).keep K42
  have f53 := (((((F6.k0 K1).k0 K10).ext E11).k1 K15 (by omega)).k2 K26 (by omega)).k1 K42 (by omega)
  have f54 := (((((F7.k0 K1).k0 K10).ext E11).k1 K15 (by omega)).k2 K26 (by omega)).k1 K42 (by omega)
  have f55 := q31.k1 K42 (by omega)
  have f56 := q32.keep K42
  have f57 := (((((F8.k0 K1).k0 K10).ext E11).k1 K15 (by omega)).k2 K26 (by omega)).k1 K42 (by omega)
  have f58 := C42.safe (own_lt (by omega)) (C26.safe (own_lt (by omega)) q24)
  refine mV 54 0 X42 f48 (rm_au88 G f48 f49 f50 f51 f52 f53 f54 f55 f56 f57 (by omega)) (u68 G) (sS (by omega) f58 all0) d38_51 rfl rfl rfl lr (by decide) (aR (by omega) (aR (by omega) all0)) ?_
  rintro _ _ _ _ X59 ⟨rfl, q60, q61, q62, q63, q64, q65⟩ K59 _ C59
  refine sk [.ref b11] rfl <| o_pop 55 X59 d38_54 rfl rfl <| oA 56 X59 d38_55 rfl rfl ?_
  have f66 := q44.k2 K59 (by omega)
  have f67 := q47.k2 K59 (by omega)
  have f68 := (f40.k1 K42 (by omega)).k2 K59 (by omega)
  have f69 := q43.keep K59
  refine mF 61 0 X59 f69 (rm_au39 G f66 f67 f68 (by decide)) (u36 G) all0 d38_56 rfl rfl rfl lr (by decide) all0 ?_
  rintro _ _ _ _ X70 rfl K70 _ C70
  refine sk [i0] rfl <| on 64 X70 d38_61 rfl ((if0 _ _).trans (teq (by decide)).2) <| oA 65 X70 d38_64 rfl rfl <| ob 67 (v := 93) X70 d38_65 rfl (by decide) ?_
  have f71 := q60.keep K70
  have f72 := q61.k0 K70
  have f73 := q62.k0 K70
  have f74 := q63.k0 K70
  have f75 := q64.k0 K70
  have f76 := q65.keep K70
  have f77 := C70.safe (own_lt (by omega)) (C59.safe (own_lt (by omega)) f58)
  refine mV 70 0 X70 f71 (rm_au90 G f71 f72 f73 f74 f75 f76 (by omega)) (u64 G) (sS (by omega) f77 all0) d38_67 rfl rfl rfl lr (by decide) (aR (by omega) (aR (by omega) all0)) ?_
  rintro _ _ _ _ X78 ⟨rfl, q79, q80, q81, q82, q83, _⟩ _ _ _
  refine sk [.ref b11] rfl <| mV 73 0 X78 q79 (rm_au95 G q79 q80 q81 q82 q83) (u69 G) all0 d38_70 rfl rfl rfl lr (by decide) all0 ?_
  rintro _ _ _ _ X85 ⟨xa1_86, xa2_87, xk1_88, rfl, q89, q90, q91, q92, q93, q94, q95, _⟩ _ _ _
  refine sk [.ref xa1_86] rfl ?_
  exact oR X85 d38_73 rfl rfl rfl (by decide) (by decide) (fun _ CC => ⟨xa1_86, xa2_87, xk1_88, rfl, q89, q90, q91, (CC.safe (own_lt (by omega)) q92), q93, q94, (CC.safe (own_lt (by omega)) q95), by omega⟩)
theorem rm_au97 (G : GL l Z a0 zc dce kdce eed keed mroa mral mrul mrur) (F0 : fd7 Z h0 pa1 (.ref pa2)) (F1 : ex2 Z h0 pa2) (F2 : fd3 Z h0 pa2 (.ref pa3)) (F3 : fd2 Z h0 pa2 (.int 0)) (F4 : fd4 Z h0 pa2 (.int 1)) (F5 : av2 Z h0 pa3 pk1 1 [.ref pa4]) (F6 : ex1 Z h0 pa4) (F7 : fd1 Z h0 pa4 (.int 0)) (F8 : fd0 Z h0 pa4 (.ref pa5)) (F9 : av0 Z h0 pa5 pk2 1 [.int pi1]) (ne : NE pa2 pa4) : M37 l Z 7 5 31 128 #[.ref pa1] h0 n0 [] [] (Q51 Z pi1 h0) := by
  refine mi B37 ef9 (hEW G) fun s X0 hsf0 n0le => ?_
  have := F0.l
  have := F1.l
  have := F5.l
  have := F6.l
  have := F9.l
  refine oA 1 X0 d37_0 rfl rfl <| oF 4 X0 (w157 G) Via.refl F0 d37_1 rfl ?_
  intro _ X2
  refine m_ifaceUp 9 0 X2 F1 (rm_au96 G F1 F2 F3 F4 F5 F6 F7 F8 F9 (by omega)) (u37 G) all0 d37_4 rfl rfl rfl lr (by decide) all0 ?_
  rintro _ _ _ _ X3 ⟨xa1_4, xa2_5, xk1_6, rfl, q7, q8, q9, q10, q11, q12, q13, _⟩ _ _ _
  refine sk [.ref xa1_4] rfl ?_
  exact oR X3 d37_9 rfl rfl rfl (by decide) (by decide) (fun _ CC => ⟨xa1_4, xa2_5, xk1_6, rfl, q7, q8, q9, (CC.safe (own_lt (by omega)) q10), q11, q12, (CC.safe (own_lt (by omega)) q13), by omega⟩)
theorem rm_au98 (G : GL l Z a0 zc dce kdce eed keed mroa mral mrul mrur) (F0 : ex4 Z h0 pa1) (F1 : fd7 Z h0 pa1 (.ref pa2)) (F2 : ex2 Z h0 pa2) (F3 : fd3 Z h0 pa2 (.ref pa3)) (F4 : fd2 Z h0 pa2 (.int 0)) (F5 : fd4 Z h0 pa2 (.int 1)) (F6 : av2 Z h0 pa3 pk1 1 [.ref pa4]) (F7 : ex1 Z h0 pa4) (F8 : fd1 Z h0 pa4 (.int 0)) (F9 : fd0 Z h0 pa4 (.ref pa5)) (F10 : av0 Z h0 pa5 pk2 1 [.int pi1]) (ne : NE pa2 pa4) : M36 l Z 8 5 31 140 #[.ref pa1] h0 n0 [] [] (Q51 Z pi1 h0) := by
  refine mi B36 ef9 (hEW G) fun s X0 hsf0 n0le => ?_
  have := F0.l
  have := F2.l
  have := F6.l
  have := F7.l
  have := F10.l
  refine oA 1 X0 d36_0 rfl rfl <| ifnonnullYesJ 10 X0 d36_1 (by decide) <| oA 11 X0 d36_10 rfl rfl <| mV 14 0 X0 F0 (rm_au97 G F1 F2 F3 F4 F5 F6 F7 F8 F9 F10 (by omega)) (u38 G) all0 d36_11 rfl rfl rfl lr (by decide) all0 ?_
  rintro _ _ _ _ X1 ⟨xa1_2, xa2_3, xk1_4, rfl, q5, q6, q7, q8, q9, q10, q11, _⟩ _ _ _
  refine sk [.ref xa1_2] rfl ?_
  exact oR X1 d36_14 rfl rfl rfl (by decide) (by decide) (fun _ CC => ⟨xa1_2, xa2_3, xk1_4, rfl, q5, q6, q7, (CC.safe (own_lt (by omega)) q8), q9, q10, (CC.safe (own_lt (by omega)) q11), by omega⟩)
def Q52 (Z : State) (h0 : Heap) (v : Option Value) (h : Heap) (vm : Vm) : Prop := v = some (.int 3)
theorem rm_au99 (G : GL l Z a0 zc dce kdce eed keed mroa mral mrul mrur) (F0 : ex1 Z h0 pa1) (F1 : fd1 Z h0 pa1 (.int 0)) (F2 : fd0 Z h0 pa1 (.ref pa2)) (F3 : av0 Z h0 pa2 pk1 3 ps_pa2) : M29 l Z 1 0 0 13 #[.ref pa1] h0 n0 [] [] (Q52 Z  h0) := by
  refine mi B29 ef9 (hEW G) fun s X0 hsf0 n0le => ?_
  have := F0.l
  have := F3.l
  refine oA 1 X0 d29_0 rfl rfl <| oF 4 X0 (w22 G) Via.refl F2 d29_1 rfl ?_
  intro _ X2
  refine oL 5 X2 F3 d29_4 rfl <| oA 6 X2 d29_5 rfl rfl <| mV 9 1 X2 F0 (rm_au25 G F1) (u25 G) all0 d29_6 rfl rfl rfl lr (by decide) all0 ?_
  rintro _ _ _ _ X3 rfl _ _ _
  refine sk [i0, .int 3] rfl <| o_ishr 10 (v := 3) X3 d29_9 rfl (by decide) ?_
  exact o_iret X3 d29_10 rfl (by decide) (by decide) (fun _ CC => rfl)
def Q53 (Z : State) (b1 : Addr) (b2 : ClassId) (b3 b4 b5 b6 : Int32) (h0 : Heap) (v : Option Value) (h : Heap) (vm : Vm) : Prop := v = none ∧ av0 Z h b1 b2 16 [.int b3, .int 32, .int b4, .int b5, .int b6, i0, i0, i0, i0, i0, i0, i0, i0, i0, i0, i0] ∧ ex0 Z h b1
theorem rm_au100 (G : GL l Z a0 zc dce kdce eed keed mroa mral mrul mrur) (F0 : ex1 Z h0 pa1) (F1 : fd1 Z h0 pa1 (.int 0)) (F2 : fd0 Z h0 pa1 (.ref pa3)) (F3 : av0 Z h0 pa2 pk1 16 [.int pi1, .int 32, i0, i0, i0, i0, i0, i0, i0, i0, i0, i0, i0, i0, i0, i0]) (F4 : ex0 Z h0 pa2) (F5 : av0 Z h0 pa3 pk2 3 [.int pi2, .int pi3, .int pi4]) (ne : NE pa1 pa2 ∧ NE pa2 pa3 ∧ n0 ≤ pa2) : M34 l Z 1 0 0 40 #[.ref pa1, .ref pa2, .int 2, i0] h0 n0 [pa2] [pa2] (Q53 Z pa2 pk1 pi1 pi2 pi3 pi4 h0) := by
  refine mi B34 ef16 (hEW G) fun s X0 hsf0 n0le => ?_
  have := F0.l
  have := F3.l
  have := F5.l
  have sf_pa2 := hsf0 pa2 (by simp)
  refine oA 1 X0 d34_0 rfl rfl <| mV 4 0 X0 F0 (rm_au25 G F1) (u25 G) all0 d34_1 rfl rfl rfl lr (by decide) all0 ?_
  rintro _ _ _ _ X1 rfl K1 _ C1
  refine sk [i0] rfl <| oI 5 X1 d34_4 rfl rfl <| oN 8 X1 d34_5 rfl (teq (by decide)).2 <| oA 9 X1 d34_8 rfl rfl ?_
  have f2 := F2.k0 K1
  refine oF 12 X1 (w22 G) Via.refl f2 d34_9 rfl ?_
  intro _ X4
  refine oc 13 (v := 0) X4 d34_12 rfl (by decide) <| oA 14 X4 d34_13 rfl rfl <| oI 15 X4 d34_14 rfl rfl <| oI 16 X4 d34_15 rfl rfl <| o_ishl 17 (v := 2) X4 d34_16 rfl (by decide) <| oA 18 X4 d34_17 rfl rfl <| oF 21 X4 (w22 G) Via.refl f2 d34_18 rfl ?_
  intro _ X6
  have f7 := F5.k0 K1
  refine oL 22 X6 f7 d34_21 rfl ?_
  have f8 := F3.k0 K1
  have f9 := C1.safe (own_lt (by omega)) sf_pa2
  refine o_cp 25 (us := [.int pi2, .int pi3, .int pi4]) (vr := [.int pi1, .int 32, .int pi2, .int pi3, .int pi4, i0, i0, i0, i0, i0, i0, i0, i0, i0, i0, i0]) (W := 0) X6 (w229 G) (w119 G) (w117 G) (w118 G) f7 f8 (Or.inl ⟨rfl, rfl⟩) (by decide) (by decide) (by decide) (by decide) (by decide) rfl (Nat.le_of_ble_eq_true rfl) rfl d34_22 rfl rfl (by decide) (Nat.le_of_eq rfl) (by decide) (by omega) (Or.inl (by simp)) f9 ?_
  intro _ _ X10 K10 _ V10
  have := K10.1
  refine og 43 X10 d34_25 (by decide) ?_
  have f11 := (F4.keep K1).keep K10
  exact oz X10 d34_43 rfl (by decide) (by decide) (fun _ CC => ⟨rfl, V10, f11⟩)
theorem rm_au101 (G : GL l Z a0 zc dce kdce eed keed mroa mral mrul mrur) (F0 : ex6 Z h0 pa1) (F1 : fd10 Z h0 pa1 (.int 0)) (F2 : fd9 Z h0 pa1 (.ref pa3)) (F3 : ex1 Z h0 pa2) (F4 : fd1 Z h0 pa2 (.int 0)) (F5 : fd0 Z h0 pa2 (.ref pa4)) (F6 : av0 Z h0 pa3 pk1 16 [.int pi1, .int 32, i0, i0, i0, i0, i0, i0, i0, i0, i0, i0, i0, i0, i0, i0]) (F7 : ex0 Z h0 pa3) (F8 : av0 Z h0 pa4 pk2 3 [.int pi2, .int pi3, .int pi4]) (ne : NE pa1 pa3 ∧ NE pa2 pa3 ∧ NE pa3 pa4 ∧ n0 ≤ pa3) : M32 l Z 2 0 0 55 #[.ref pa1, .int 2, .ref pa2] h0 n0 [pa3] [pa3] (Q53 Z pa3 pk1 pi1 pi2 pi3 pi4 h0) := by
  refine mi B32 ef15 (hEW G) fun s X0 hsf0 n0le => ?_
  have := F0.l
  have := F3.l
  have := F6.l
  have := F8.l
  have sf_pa3 := hsf0 pa3 (by simp)
  refine oA 1 X0 d32_0 rfl rfl <| oA 2 X0 d32_1 rfl rfl <| mV 5 0 X0 F0 (rm_au28 G F1 F3 F4) (u29 G) all0 d32_2 rfl rfl rfl lr (by decide) all0 ?_
  rintro _ _ _ _ X1 rfl K1 _ C1
  refine sk [] rfl <| oA 6 X1 d32_5 rfl rfl <| oA 7 X1 d32_6 rfl rfl ?_
  have f2 := F2.k0 K1
  refine oF 10 X1 (w182 G) Via.refl f2 d32_7 rfl ?_
  intro _ X4
  refine oI 11 X4 d32_10 rfl rfl <| oA 12 X4 d32_11 rfl rfl ?_
  have f5 := F1.k0 K1
  refine oF 15 X4 (w184 G) Via.refl f5 d32_12 rfl ?_
  intro _ X7
  have f8 := F3.keep K1
  have f9 := F4.k0 K1
  have f10 := F5.k0 K1
  have f11 := F6.k0 K1
  have f12 := F7.keep K1
  have f13 := F8.k0 K1
  have f14 := C1.safe (own_lt (by omega)) sf_pa3
  refine mV 18 0 X7 f8 (rm_au100 G f8 f9 f10 f11 f12 f13 (by omega)) (u30 G) (sS (by omega) f14 all0) d32_15 rfl rfl rfl lr (by decide) (aI (by omega) (by simp) all0) ?_
  rintro _ _ _ _ X15 ⟨rfl, q16, q17⟩ _ _ _
  refine sk [] rfl ?_
  exact oz X15 d32_18 rfl (by decide) (by decide) (fun _ CC => ⟨rfl, q16, q17⟩)
def Q54 (Z : State) (b1 b2 : Addr) (b3 : ClassId) (b4 b5 b6 b7 : Int32) (h0 : Heap) (v : Option Value) (h : Heap) (vm : Vm) : Prop := v = some (.ref b1) ∧ ex6 Z h b1 ∧ fd10 Z h b1 (.int 0) ∧ fd11 Z h b1 (.int 5) ∧ fd9 Z h b1 (.ref b2) ∧ av0 Z h b2 b3 16 [.int b4, .int 32, .int b5, .int b6, .int b7, i0, i0, i0, i0, i0, i0, i0, i0, i0, i0, i0] ∧ ex0 Z h b2
theorem rm_au102 (G : GL l Z a0 zc dce kdce eed keed mroa mral mrul mrur) (F0 : ex6 Z h0 pa1) (F1 : fd10 Z h0 pa1 (.int 0)) (F2 : fd11 Z h0 pa1 (.int 2)) (F3 : fd9 Z h0 pa1 (.ref pa3)) (F4 : ex1 Z h0 pa2) (F5 : fd1 Z h0 pa2 (.int 0)) (F6 : fd0 Z h0 pa2 (.ref pa4)) (F7 : av0 Z h0 pa3 pk1 16 [.int pi1, .int 32, i0, i0, i0, i0, i0, i0, i0, i0, i0, i0, i0, i0, i0, i0]) (F8 : ex0 Z h0 pa3) (F9 : av0 Z h0 pa4 pk2 3 [.int pi2, .int pi3, .int pi4]) (ne : NE pa1 pa2 ∧ NE pa1 pa3 ∧ NE pa1 pa4 ∧ NE pa2 pa3 ∧ NE pa3 pa4 ∧ n0 ≤ pa1 ∧ n0 ≤ pa3) : M28 l Z 3 0 0 69 #[.ref pa1, .ref pa2] h0 n0 [pa1, pa3] [pa3] (Q54 Z pa1 pa3 pk1 pi1 pi2 pi3 pi4 h0) := by
  refine mi B28 ef11 (hEW G) fun s X0 hsf0 n0le => ?_
  have := F0.l
  have := F4.l
  have := F7.l
  have := F9.l
  have sf_pa3 := hsf0 pa3 (by simp)
  refine oA 1 X0 d28_0 rfl rfl <| ifnonnullYesJ 9 X0 d28_1 (by decide) <| oA 10 X0 d28_9 rfl rfl <| mV 13 0 X0 F4 (rm_au99 G F4 F5 F6 F9) (u26 G) all0 d28_10 rfl rfl rfl lr (by decide) all0 ?_
  rintro _ _ _ _ X1 rfl K1 _ C1
  refine sk [.int 3] rfl <| oT 14 (l' := #[rr pa1, rr pa2, ii 3]) X1 d28_13 rfl rfl <| oA 15 X1 d28_14 rfl rfl <| oA 16 X1 d28_15 rfl rfl ?_
  have f2 := F2.k0 K1
  refine oF 19 X1 (w206 G) Via.refl f2 d28_16 rfl ?_
  intro _ X4
  refine oI 20 X4 d28_19 rfl rfl <| o_iadd 21 (v := 5) X4 d28_20 rfl (by decide) ?_
  have f5 := F1.k0 K1
  have f6 := F3.k0 K1
  have f7 := F7.k0 K1
  have f8 := F0.keep K1
  refine mV 24 0 X4 f8 (rm_au27 G f5 f6 f7 (by decide)) (u27 G) all0 d28_21 rfl rfl rfl lr (by decide) all0 ?_
  rintro _ _ _ _ X9 rfl K9 _ C9
  refine sk [] rfl <| oA 25 X9 d28_24 rfl rfl <| oA 26 X9 d28_25 rfl rfl ?_
  have f10 := f2.k0 K9
  refine oF 29 X9 (w206 G) Via.refl f10 d28_26 rfl ?_
  intro _ X12
  refine oA 30 X12 d28_29 rfl rfl ?_
  have f13 := f8.keep K9
  have f14 := f5.k0 K9
  have f15 := f6.k0 K9
  have f16 := (F4.keep K1).keep K9
  have f17 := (F5.k0 K1).k0 K9
  have f18 := (F6.k0 K1).k0 K9
  have f19 := f7.k0 K9
  have f20 := (F8.keep K1).keep K9
  have f21 := (F9.k0 K1).k0 K9
  have f22 := C9.safe (own_lt (by omega)) (C1.safe (own_lt (by omega)) sf_pa3)
  refine mV 33 0 X12 f13 (rm_au101 G f13 f14 f15 f16 f17 f18 f19 f20 f21 (by omega)) (u31 G) (sS (by omega) f22 all0) d28_30 rfl rfl rfl lr (by decide) (aI (by omega) (by simp) all0) ?_
  rintro _ _ _ _ X23 ⟨rfl, q24, q25⟩ K23 _ _
  refine sk [] rfl <| oA 34 X23 d28_33 rfl rfl <| oD 35 X23 d28_34 rfl rfl ?_
  have f26 := f10.k1 K23 (by omega)
  refine oF 38 X23 (w206 G) Via.refl f26 d28_35 rfl ?_
  intro _ X28
  refine oI 39 X28 d28_38 rfl rfl <| o_iadd 40 (v := 5) X28 d28_39 rfl (by decide) ?_
  have f29 := f13.keep K23
  refine oP 43 (v' := (.int 5)) X28 (w206 G) Via.refl f26 f29 (Or.inl (w207 G)) (w169 G) fd_2 rfl rfl d28_40 rfl (by omega) (Or.inl (by simp)) (sx X28 f29 nc5) ?_
  intro _ _ X30 W30 _
  have := W30.size
  have f31 := f26.same W30
  refine oA 44 X30 d28_43 rfl rfl ?_
  have f32 := f29.wr W30
  have f33 := (f14.k1 K23 (by omega)).other W30 (Or.inr (sn16 G))
  have f34 := (f15.k1 K23 (by omega)).other W30 (Or.inr (sn17 G))
  have f35 := q24.oth W30 (by omega)
  have f36 := q25.wr W30
  exact oR X30 d28_44 rfl rfl rfl (by decide) (by decide) (fun _ CC => ⟨rfl, f32, f33, f31, f34, f35, f36⟩)
theorem rm_au103 (G : GL l Z a0 zc dce kdce eed keed mroa mral mrul mrur) (F0 : ex6 Z h0 pa1) (F1 : fd10 Z h0 pa1 (.int 0)) (F2 : fd11 Z h0 pa1 (.int 2)) (F3 : fd9 Z h0 pa1 (.ref pa3)) (F4 : ex1 Z h0 pa2) (F5 : fd1 Z h0 pa2 (.int 0)) (F6 : fd0 Z h0 pa2 (.ref pa4)) (F7 : av0 Z h0 pa3 pk1 16 [.int pi1, .int 32, i0, i0, i0, i0, i0, i0, i0, i0, i0, i0, i0, i0, i0, i0]) (F8 : ex0 Z h0 pa3) (F9 : av0 Z h0 pa4 pk2 3 [.int pi100, .int pi2, .int pi101]) (ne : NE pa1 pa2 ∧ NE pa1 pa3 ∧ NE pa1 pa4 ∧ NE pa2 pa3 ∧ NE pa3 pa4 ∧ n0 ≤ pa1 ∧ n0 ≤ pa3) : M27 l Z 4 0 0 83 #[.ref pa1, .ref pa2] h0 n0 [pa1, pa3] [pa3] (Q54 Z pa1 pa3 pk1 pi1 pi100 pi2 pi101 h0) := by
  refine mi B27 ef4 (hEW G) fun s X0 hsf0 n0le => ?_
  have := F0.l
  have := F4.l
  have := F7.l
  have := F9.l
  have sf_pa3 := hsf0 pa3 (by simp)
  refine oA 1 X0 d27_0 rfl rfl <| oA 2 X0 d27_1 rfl rfl <| mU 5 0 X0 F0 (rm_au102 G F0 F1 F2 F3 F4 F5 F6 F7 F8 F9 (by omega)) (u32 G) (sS (by omega) sf_pa3 all0) d27_2 rfl rfl rfl lr (by decide) (aI (by omega) (by simp) (aI (by omega) (by simp) all0)) ?_
  rintro _ _ _ _ X1 ⟨rfl, q2, q3, q4, q5, q6, q7⟩ _ _ _
  refine sk [.ref pa1] rfl <| o_pop 6 X1 d27_5 rfl rfl <| oA 7 X1 d27_6 rfl rfl ?_
  exact oR X1 d27_7 rfl rfl rfl (by decide) (by decide) (fun _ CC => ⟨rfl, q2, q3, q4, q5, q6, q7⟩)
def Q55 (Z : State) (b1 b2 : Addr) (b3 : ClassId) (b4 b5 : Int32) (h0 : Heap) (v : Option Value) (h : Heap) (vm : Vm) : Prop := v = some (.ref b1) ∧ ex6 Z h b1 ∧ fd10 Z h b1 (.int 0) ∧ fd11 Z h b1 (.int 5) ∧ fd9 Z h b1 (.ref b2) ∧ av0 Z h b2 b3 16 [.int b4, .int 32, .int 91, .int b5, .int 93, i0, i0, i0, i0, i0, i0, i0, i0, i0, i0, i0] ∧ ex0 Z h b2
theorem rm_au104 (G : GL l Z a0 zc dce kdce eed keed mroa mral mrul mrur) (F0 : ex6 Z h0 pa1) (F1 : fd10 Z h0 pa1 (.int 0)) (F2 : fd11 Z h0 pa1 (.int 2)) (F3 : fd9 Z h0 pa1 (.ref pa3)) (F4 : ex4 Z h0 pa2) (F5 : fd7 Z h0 pa2 (.ref pa4)) (F6 : av0 Z h0 pa3 pk1 16 [.int pi1, .int 32, i0, i0, i0, i0, i0, i0, i0, i0, i0, i0, i0, i0, i0, i0]) (F7 : ex0 Z h0 pa3) (F8 : ex2 Z h0 pa4) (F9 : fd3 Z h0 pa4 (.ref pa5)) (F10 : fd2 Z h0 pa4 (.int 0)) (F11 : fd4 Z h0 pa4 (.int 1)) (F12 : av2 Z h0 pa5 pk2 1 [.ref pa6]) (F13 : ex1 Z h0 pa6) (F14 : fd1 Z h0 pa6 (.int 0)) (F15 : fd0 Z h0 pa6 (.ref pa7)) (F16 : av0 Z h0 pa7 pk3 1 [.int pi2]) (ne : NE pa1 pa2 ∧ NE pa1 pa3 ∧ NE pa1 pa4 ∧ NE pa1 pa5 ∧ NE pa1 pa6 ∧ NE pa1 pa7 ∧ NE pa2 pa3 ∧ NE pa3 pa4 ∧ NE pa3 pa5 ∧ NE pa3 pa6 ∧ NE pa3 pa7 ∧ NE pa4 pa6 ∧ n0 ≤ pa1 ∧ n0 ≤ pa3) : M35 l Z 9 5 31 153 #[.ref pa1, .ref pa2] h0 n0 [pa1, pa3] [pa3] (Q55 Z pa1 pa3 pk1 pi1 pi2 h0) := by
  refine mi B35 ef4 (hEW G) fun s X0 hsf0 n0le => ?_
  have := F0.l
  have := F4.l
  have := F6.l
  have := F8.l
  have := F12.l
  have := F13.l
  have := F16.l
  have sf_pa3 := hsf0 pa3 (by simp)
  refine oA 1 X0 d35_0 rfl rfl <| oA 2 X0 d35_1 rfl rfl <| mS 5 1 X0 (rm_au98 G F4 F5 F8 F9 F10 F11 F12 F13 F14 F15 F16 (by omega)) (u39 G) all0 d35_2 rfl rfl rfl lr (by decide) all0 ?_
  rintro _ _ _ _ X1 ⟨xa1_2, _, _, rfl, q5, q6, q7, _, q9, _, _, _⟩ K1 _ C1
  refine sk [.ref xa1_2, .ref pa1] rfl ?_
  have f13 := F0.keep K1
  have f14 := F1.k0 K1
  have f15 := F2.k0 K1
  have f16 := F3.k0 K1
  have f17 := F6.k0 K1
  have f18 := F7.keep K1
  have f19 := C1.safe (own_lt (by omega)) sf_pa3
  refine mV 8 0 X1 f13 (rm_au103 G f13 f14 f15 f16 q5 q6 q7 f17 f18 q9 (by omega)) (u40 G) (sS (by omega) f19 all0) d35_5 rfl rfl rfl lr (by decide) (aI (by omega) (by simp) (aI (by omega) (by simp) all0)) ?_
  rintro _ _ _ _ X20 ⟨rfl, q21, q22, q23, q24, q25, q26⟩ _ _ _
  refine sk [.ref pa1] rfl ?_
  exact oR X20 d35_8 rfl rfl rfl (by decide) (by decide) (fun _ CC => ⟨rfl, q21, q22, q23, q24, q25, q26⟩)
def Q56 (Z : State) (b1 b2 : Int32) (h0 : Heap) (v : Option Value) (h : Heap) (vm : Vm) : Prop := ∃ (xa1 : Addr) (xk1 : ClassId), v = some (.ref xa1) ∧ av0 Z h xa1 xk1 5 [.int b1, .int 32, .int 91, .int b2, .int 93] ∧ ex0 Z h xa1 ∧ Safe Z EL0 vm h xa1 ∧ h0.size ≤ xa1 ∧ h.size > xa1
theorem rm_au105 (G : GL l Z a0 zc dce kdce eed keed mroa mral mrul mrur) (F0 : av0 Z h0 pa1 pk1 16 [.int pi1, .int 32, .int 91, .int pi2, .int 93, i0, i0, i0, i0, i0, i0, i0, i0, i0, i0, i0]) : M50 l Z 1 1 5 40 #[.ref pa1, i0, .int 5] h0 n0 [] [] (Q56 Z pi1 pi2 h0) := by
  refine mi B50 ef20 (hEW G) fun s X0 hsf0 n0le => ?_
  have := F0.l
  refine oI 1 X0 d50_0 rfl rfl <| oI 2 X0 d50_1 rfl rfl <| mS 5 0 X0 (rm_au54 G (by decide)) (u46 G) all0 d50_2 rfl rfl rfl lr (by decide) all0 ?_
  rintro _ _ _ _ X1 rfl K1 _ _
  refine sk [] rfl <| oI 6 X1 d50_5 rfl rfl <| oI 7 X1 d50_6 rfl rfl <| o_isub 8 (v := 5) X1 d50_7 rfl (by decide) <| oT 9 (l' := #[rr pa1, ii 0, ii 5, ii 5, uu]) X1 d50_8 rfl rfl <| oI 10 X1 d50_9 rfl rfl <| nP (aty := .byte) 12 5 X1 (w14 G) d50_10 rfl (by decide) had_byte ?_
  intro _ h2 b2 k2 X2 _ _ E2 V2 A2 _ S2
  have V3 : av0 Z h2 b2 k2 5 [i0, i0, i0, i0, i0] := V2.pad (pad_rep [] (.int (0 : Int32)) 5)
  refine oU 14 (l' := #[rr pa1, ii 0, ii 5, ii 5, rr b2]) X2 d50_12 rfl rfl rfl <| oA 15 X2 d50_14 rfl rfl <| oI 16 X2 d50_15 rfl rfl <| oa 18 X2 d50_16 rfl rfl <| oc 19 (v := 0) X2 d50_18 rfl (by decide) <| oA 20 X2 d50_19 rfl rfl ?_
  have f4 := (F0.k0 K1).ext E2
  refine oL 21 X2 f4 d50_20 rfl <| oI 22 X2 d50_21 rfl rfl <| o_isub 23 (v := 16) X2 d50_22 rfl (by decide) <| oI 24 X2 d50_23 rfl rfl <| mS 27 4 X2 (rm_au55 G (by decide)) (u13 G) all0 d50_24 rfl rfl rfl lr (by decide) all0 ?_
  rintro _ _ _ _ X5 rfl K5 _ C5
  refine sk [.int 5, i0, .ref b2, i0, .ref pa1] rfl ?_
  have f6 := f4.k0 K5
  have f7 := V3.k0 K5
  have f8 := C5.safe (own_lt (by omega)) S2
  refine o_cp 30 (us := [.int pi1, .int 32, .int 91, .int pi2, .int 93]) (vr := [.int pi1, .int 32, .int 91, .int pi2, .int 93]) (W := 0) X5 (w116 G) (w119 G) (w117 G) (w118 G) f6 f7 (Or.inl ⟨rfl, rfl⟩) (by decide) (by decide) (by decide) (by decide) (by decide) rfl (Nat.le_of_ble_eq_true rfl) rfl d50_27 rfl rfl (by decide) (Nat.le_of_eq rfl) (by decide) (by omega) (Or.inr (by omega)) f8 ?_
  intro _ _ X9 K9 C9 V9
  have := K9.1
  refine oa 32 X9 d50_30 rfl rfl ?_
  have f10 := (A2.keep K5).keep K9
  have f11 := C9.safe (own_lt (by omega)) f8
  exact oR X9 d50_32 rfl rfl rfl (by decide) (by decide) (fun _ CC => ⟨b2, k2, rfl, V9, f10, (CC.safe (own_lt (by omega)) f11), by omega⟩)
theorem rm_au106 (G : GL l Z a0 zc dce kdce eed keed mroa mral mrul mrur) (F0 : av0 Z h0 pa1 pk1 16 [.int pi1, .int 32, .int 91, .int pi2, .int 93, i0, i0, i0, i0, i0, i0, i0, i0, i0, i0, i0]) : M49 l Z 2 1 5 56 #[.ref pa1, i0, .int 5] h0 n0 [] [] (Q56 Z pi1 pi2 h0) := by
  refine mi B49 ef19 (hEW G) fun s X0 hsf0 n0le => ?_
  have := F0.l
  refine oI 1 X0 d49_0 rfl rfl <| on 4 X0 d49_1 rfl ((if0 _ _).trans (teq (by decide)).2) <| oI 5 X0 d49_4 rfl rfl <| oA 6 X0 d49_5 rfl rfl <| oL 7 X0 F0 d49_6 rfl <| oN 10 X0 d49_7 rfl (feq (by decide)).1 <| oA 11 X0 d49_10 rfl rfl <| oI 12 X0 d49_11 rfl rfl <| oI 13 X0 d49_12 rfl rfl <| mS 16 0 X0 (rm_au105 G F0) (u47 G) all0 d49_13 rfl rfl rfl lr (by decide) all0 ?_
  rintro _ _ _ _ X1 ⟨xa1_2, xk1_3, rfl, q4, q5, q6, _⟩ _ _ _
  refine sk [.ref xa1_2] rfl ?_
  exact oR X1 d49_16 rfl rfl rfl (by decide) (by decide) (fun _ CC => ⟨xa1_2, xk1_3, rfl, q4, q5, (CC.safe (own_lt (by omega)) q6), by omega⟩)
def Q57 (Z : State) (b1 : Addr) (b2 b3 : Int32) (h0 : Heap) (v : Option Value) (h : Heap) (vm : Vm) : Prop := ∃ (xa1 : Addr) (xk1 : ClassId), v = none ∧ ex1 Z h b1 ∧ fd1 Z h b1 (.int 0) ∧ fd0 Z h b1 (.ref xa1) ∧ av0 Z h xa1 xk1 5 [.int b2, .int 32, .int 91, .int b3, .int 93] ∧ ex0 Z h xa1 ∧ Safe Z EL0 vm h xa1 ∧ h0.size ≤ xa1 ∧ h.size > xa1
theorem rm_au107 (G : GL l Z a0 zc dce kdce eed keed mroa mral mrul mrur) (F0 : ex1 Z h0 pa1) (F1 : fd1 Z h0 pa1 (.int 0)) (F2 : fd0 Z h0 pa1 .null) (F3 : ex6 Z h0 pa2) (F4 : fd10 Z h0 pa2 (.int 0)) (F5 : fd11 Z h0 pa2 (.int 5)) (F6 : fd9 Z h0 pa2 (.ref pa3)) (F7 : av0 Z h0 pa3 pk1 16 [.int pi1, .int 32, .int 91, .int pi2, .int 93, i0, i0, i0, i0, i0, i0, i0, i0, i0, i0, i0]) (ne : NE pa1 pa2 ∧ NE pa1 pa3 ∧ n0 ≤ pa1) : M44 l Z 3 1 5 71 #[.ref pa1, .ref pa2, .null] h0 n0 [pa1] [pa1] (Q57 Z pa1 pi1 pi2 h0) := by
  refine mi B44 ef18 (hEW G) fun s X0 hsf0 n0le => ?_
  have := F0.l
  have := F3.l
  have := F7.l
  have sf_pa1 := hsf0 pa1 (by simp)
  refine oA 1 X0 d44_0 rfl rfl <| o_initO 4 (W := 0) X0 (w19 G) (w20 G) (w21 G) rfl (by decide) (Nat.le_of_eq rfl) (by decide) d44_1 rfl ?_
  intro _ X2
  refine oA 5 X2 d44_4 rfl rfl <| mV 8 0 X2 F3 (rm_au50 G F6) (u42 G) all0 d44_5 rfl rfl rfl lr (by decide) all0 ?_
  rintro _ _ _ _ X3 rfl K3 _ C3
  refine sk [.ref pa3] rfl <| oV 9 (l' := #[rr pa1, rr pa2, .val .null, rr pa3, uu]) X3 d44_8 rfl rfl rfl <| oA 10 X3 d44_9 rfl rfl ?_
  have f4 := F3.keep K3
  have f5 := F5.k0 K3
  refine mV 13 0 X3 f4 (rm_au52 G f4 f5) (u44 G) all0 d44_10 rfl rfl rfl lr (by decide) all0 ?_
  rintro _ _ _ _ X6 rfl K6 _ C6
  refine sk [.int 5] rfl <| oS 15 (l' := #[rr pa1, rr pa2, .val .null, rr pa3, ii 5]) X6 d44_13 rfl rfl <| oA 16 X6 d44_15 rfl rfl ?_
  have f7 := (F4.k0 K3).k0 K6
  have f8 := f4.keep K6
  refine mV 19 0 X6 f8 (rm_au53 G f7 (by decide)) (u45 G) all0 d44_16 rfl rfl rfl lr (by decide) all0 ?_
  rintro _ _ _ _ X9 rfl K9 _ C9
  refine sk [.int 1] rfl <| on 22 X9 d44_19 rfl ((if0 _ _).trans (feq (by decide)).1) <| oA 23 X9 d44_22 rfl rfl <| oc 24 (v := 0) X9 d44_23 rfl (by decide) ?_
  have f10 := ((F1.k0 K3).k0 K6).k0 K9
  have f11 := ((F0.keep K3).keep K6).keep K9
  have f13 := C9.safe (own_lt (by omega)) (C6.safe (own_lt (by omega)) (C3.safe (own_lt (by omega)) sf_pa1))
  refine oP 27 (v' := (.int 0)) X9 (w24 G) Via.refl f10 f11 (Or.inr ⟨(w25 G), rfl, rfl⟩) (w10 G) fd_1 rfl rfl d44_24 rfl (by omega) (Or.inl (by simp)) f13 ?_
  intro _ _ X12 W12 C12
  have := W12.size
  have f14 := f10.same W12
  refine oA 28 X12 d44_27 rfl rfl <| oA 29 X12 d44_28 rfl rfl <| oc 30 (v := 0) X12 d44_29 rfl (by decide) <| oi 32 X12 d44_30 rfl rfl ?_
  have f15 := (((F7.k0 K3).k0 K6).k0 K9).oth W12 (by omega)
  refine mS 35 1 X12 (rm_au106 G f15) (u48 G) all0 d44_32 rfl rfl rfl lr (by decide) all0 ?_
  rintro _ _ _ _ X16 ⟨xa1_17, xk1_18, rfl, q19, q20, q21, _⟩ K16 _ C16
  refine sk [.ref xa1_17, .ref pa1] rfl ?_
  have f23 := ((((F2.k0 K3).k0 K6).k0 K9).other W12 (Or.inr (sn1 G))).k0 K16
  have f24 := (f11.wr W12).keep K16
  have f26 := C16.safe (own_lt (by omega)) (C12.safe (own_lt (by omega)) f13)
  refine oP 38 (v' := (.ref xa1_17)) X16 (w22 G) Via.refl f23 f24 (Or.inr ⟨(w23 G), rfl, rfl⟩) (w10 G) fd_0 rfl rfl d44_35 rfl (by omega) (Or.inl (by simp)) f26 ?_
  intro _ _ X25 W25 C25
  have := W25.size
  have f27 := f23.same W25
  refine og 97 X25 d44_38 (by decide) ?_
  have f28 := f24.wr W25
  have f29 := (f14.k0 K16).other W25 (Or.inr (sn0 G))
  have f30 := q19.oth W25 (by omega)
  have f31 := q20.wr W25
  have f32 := C25.safe (own_lt (by omega)) q21
  exact oz X25 d44_97 rfl (by decide) (by decide) (fun _ CC => ⟨xa1_17, xk1_18, rfl, f28, f29, f27, f30, f31, (CC.safe (own_lt (by omega)) f32), by omega⟩)
theorem rm_au108 (G : GL l Z a0 zc dce kdce eed keed mroa mral mrul mrur) (F0 : ex1 Z h0 pa1) (F1 : fd1 Z h0 pa1 (.int 0)) (F2 : fd0 Z h0 pa1 .null) (F3 : ex6 Z h0 pa2) (F4 : fd10 Z h0 pa2 (.int 0)) (F5 : fd11 Z h0 pa2 (.int 5)) (F6 : fd9 Z h0 pa2 (.ref pa3)) (F7 : av0 Z h0 pa3 pk1 16 [.int pi1, .int 32, .int 91, .int pi2, .int 93, i0, i0, i0, i0, i0, i0, i0, i0, i0, i0, i0]) (ne : NE pa1 pa2 ∧ NE pa1 pa3 ∧ n0 ≤ pa1) : M43 l Z 4 1 5 87 #[.ref pa1, .ref pa2] h0 n0 [pa1] [pa1] (Q57 Z pa1 pi1 pi2 h0) := by
  refine mi B43 ef4 (hEW G) fun s X0 hsf0 n0le => ?_
  have := F0.l
  have := F3.l
  have := F7.l
  have sf_pa1 := hsf0 pa1 (by simp)
  refine oA 1 X0 d43_0 rfl rfl <| oA 2 X0 d43_1 rfl rfl <| o_aconstNull 3 X0 d43_2 rfl <| mP 6 0 X0 (rm_au107 G F0 F1 F2 F3 F4 F5 F6 F7 (by omega)) (u49 G) (sS (by omega) sf_pa1 all0) d43_3 rfl rfl rfl lr (by decide) (aI (by omega) (by simp) all0) ?_
  rintro _ _ _ _ X1 ⟨xa1_2, xk1_3, rfl, q4, q5, q6, q7, q8, q9, _⟩ _ _ _
  refine sk [] rfl ?_
  exact oz X1 d43_6 rfl (by decide) (by decide) (fun _ CC => ⟨xa1_2, xk1_3, rfl, q4, q5, q6, q7, q8, (CC.safe (own_lt (by omega)) q9), by omega⟩)
def Q58 (Z : State) (b1 b2 : Int32) (h0 : Heap) (v : Option Value) (h : Heap) (vm : Vm) : Prop := ∃ (xa1 : Addr) (xa2 : Addr) (xk1 : ClassId), v = some (.ref xa1) ∧ ex1 Z h xa1 ∧ fd1 Z h xa1 (.int 0) ∧ fd0 Z h xa1 (.ref xa2) ∧ Safe Z EL0 vm h xa1 ∧ av0 Z h xa2 xk1 5 [.int b1, .int 32, .int 91, .int b2, .int 93] ∧ ex0 Z h xa2 ∧ Safe Z EL0 vm h xa2 ∧ h0.size ≤ xa1 ∧ h.size > xa1 ∧ h0.size ≤ xa2 ∧ h.size > xa2 ∧ NE xa1 xa2
theorem rm_au109 (G : GL l Z a0 zc dce kdce eed keed mroa mral mrul mrur) (F0 : ex6 Z h0 pa1) (F1 : fd10 Z h0 pa1 (.int 0)) (F2 : fd11 Z h0 pa1 (.int 5)) (F3 : fd9 Z h0 pa1 (.ref pa2)) (F4 : av0 Z h0 pa2 pk1 16 [.int pi1, .int 32, .int 91, .int pi2, .int 93, i0, i0, i0, i0, i0, i0, i0, i0, i0, i0, i0]) : M42 l Z 5 2 9 101 #[.ref pa1] h0 n0 [] [] (Q58 Z pi1 pi2 h0) := by
  refine mi B42 ef9 (hEW G) fun s X0 hsf0 n0le => ?_
  have l1 := F0.l
  have := F4.l
  refine o_new 3 X0 (w294 G) (w10 G) (w2 G) d42_0 rfl (by decide) (by decide) ?_
  intro _ h1 b1 X1 _ l1 E1 A1 D1 _ _ S1
  have f2 : fd0 Z h1 b1 .null := D1 (Or.inr (w23 G)) fd_0
  have f3 : fd1 Z h1 b1 (.int 0) := D1 (Or.inr (w25 G)) fd_1
  refine oD 4 X1 d42_3 rfl rfl <| oA 5 X1 d42_4 rfl rfl ?_
  have f4 := F0.ext E1
  have f5 := F1.ext E1
  have f6 := F2.ext E1
  have f7 := F3.ext E1
  have f8 := F4.ext E1
  refine mP 8 1 X1 (rm_au108 G A1 f3 f2 f4 f5 f6 f7 f8 (by omega)) (u50 G) (sS (by omega) S1 all0) d42_5 rfl rfl rfl lr (by decide) (aR (by omega) all0) ?_
  rintro _ _ _ _ X9 ⟨xa1_10, xk1_11, rfl, q12, q13, q14, q15, q16, q17, _⟩ _ _ C9
  refine sk [.ref b1] rfl ?_
  have f19 := C9.safe (own_lt (by omega)) S1
  exact oR X9 d42_8 rfl rfl rfl (by decide) (by decide) (fun _ CC => ⟨b1, xa1_10, xk1_11, rfl, q12, q13, q14, (CC.safe (own_lt (by omega)) f19), q15, q16, (CC.safe (own_lt (by omega)) q17), by omega⟩)
theorem rm_au110 (G : GL l Z a0 zc dce kdce eed keed mroa mral mrul mrur) (F0 : ex5 Z h0 pa1) (F1 : fd6 Z h0 pa1 (.ref pa2)) (F2 : fd5 Z h0 pa1 (.ref pa3)) (F3 : ex4 Z h0 pa2) (F4 : fd7 Z h0 pa2 (.ref pa4)) (F5 : ex1 Z h0 pa3) (F6 : fd1 Z h0 pa3 (.int 0)) (F7 : fd0 Z h0 pa3 (.ref pa5)) (F8 : ex2 Z h0 pa4) (F9 : fd3 Z h0 pa4 (.ref pa6)) (F10 : fd2 Z h0 pa4 (.int 0)) (F11 : fd4 Z h0 pa4 (.int 1)) (F12 : av0 Z h0 pa5 pk1 1 [.int pi1]) (F13 : ex0 Z h0 pa5) (F14 : av2 Z h0 pa6 pk2 1 [.ref pa7]) (F15 : ex3 Z h0 pa6) (F16 : ex1 Z h0 pa7) (F17 : fd1 Z h0 pa7 (.int 0)) (F18 : fd0 Z h0 pa7 (.ref pa8)) (F19 : av0 Z h0 pa8 pk3 1 [.int pi2]) (F20 : ex0 Z h0 pa8) (ne : NE pa4 pa7) : M24 l Z 10 11 68 166 #[.ref pa1] h0 n0 [] [] (Q58 Z pi1 pi2 h0) := by
  have hw := G.1
  refine mi B24 ef9 (hEW G) fun s X0 hsf0 n0le => ?_
  have l1 := F0.l
  have := F3.l
  have := F5.l
  have := F8.l
  have := F12.l
  have := F14.l
  have := F16.l
  have := F19.l
  refine o_new 3 X0 (w168 G) (w169 G) (w170 G) d24_0 rfl (by decide) (by decide) ?_
  intro _ h1 b1 X1 _ l1 E1 A1 D1 _ _ _
  have f2 : fd9 Z h1 b1 .null := D1 (Or.inl (w183 G)) fd_0
  have f3 : fd10 Z h1 b1 (.int 0) := D1 (Or.inl (w185 G)) fd_1
  have f4 : fd11 Z h1 b1 (.int 0) := D1 (Or.inl (w207 G)) fd_2
  refine oD 4 X1 d24_3 rfl rfl <| mP 7 1 X1 (rm_au24 G A1 f3 f4 f2 (by omega)) (u24 G) all0 d24_4 rfl rfl rfl lr (by decide) (aR (by omega) all0) ?_
  rintro _ _ _ _ X5 ⟨xa1_6, _, rfl, q8, q9, q10, q11, q12, q13, q14, _⟩ K5 _ _
  refine sk [.ref b1] rfl <| oA 8 X5 d24_7 rfl rfl ?_
  have f16 := (F2.ext E1).k1 K5 (by omega)
  refine oF 11 X5 (w79 G) Via.refl f16 d24_8 rfl ?_
  intro _ X18
  have f19 := (F5.ext E1).keep K5
  have f20 := (F6.ext E1).k1 K5 (by omega)
  have f21 := (F7.ext E1).k1 K5 (by omega)
  have f22 := (F12.ext E1).k1 K5 (by omega)
  refine mV 14 0 X18 q8 (rm_au32 G q8 q9 q10 q11 f19 f20 f21 q12 q13 f22 (by omega)) (u33 G) (sS (by omega) q14 all0) d24_11 rfl rfl rfl lr (by decide) (aR (by omega) (aR (by omega) all0)) ?_
  rintro _ _ _ _ X23 ⟨rfl, q24, q25, q26, q27, q28, q29⟩ K23 _ C23
  refine sk [.ref b1] rfl <| o_ldcC 16 (n := 4) (vs := own_bs ([32] : List Int32)) (z := (1 : Int32)) X23 (w230 G) (hws_str hw) (by decide) ⟨by decide, rfl⟩ (by decide) (by decide) d24_14 rfl (by decide) (by decide) (by decide) (by decide) ?_
  intro a30 b30 kb30 _ h30 _ X30 E30 C30 Es30 Cs30 Vs30 As30 SF30
  have lta30 : h30.size > a30 := Es30.lt
  have ltb30 : h30.size > b30 := As30.lt
  have := E30.1
  have Bs30 : av0 Z h30 b30 kb30 1 [.int 32] := As30
  have f32 := q24.ext E30
  have := own_nes (SF30 b1 (sx X30 f32 nc5))
  have f34 := (((F0.ext E1).keep K5).keep K23).ext E30
  have := own_nes (SF30 pa1 (sx X30 f34 nc2))
  have f36 := (((F3.ext E1).keep K5).keep K23).ext E30
  have := own_nes (SF30 pa2 (sx X30 f36 nc4))
  have f38 := (((F8.ext E1).keep K5).keep K23).ext E30
  have := own_nes (SF30 pa4 (sx X30 f38 nc1))
  have f40 := (((F15.ext E1).keep K5).keep K23).ext E30
  have := own_nes (SF30 pa6 (sx X30 f40 nc3))
  have f42 := C30.safe (own_lt (by omega)) (C23.safe (own_lt (by omega)) q14)
  have := own_nes (SF30 xa1_6 f42)
  have f43 := q25.ext E30
  have f44 := q26.ext E30
  have f45 := q27.ext E30
  have f46 := q28.ext E30
  have f47 := q29.ext E30
  have := own_neC f32 Es30 (by decide +kernel)
  have := own_neE f32 Bs30 (w169 G)
  have := own_neC Es30 f47 (by decide +kernel)
  have := own_neA f46 Bs30 (by decide)
  refine mV 19 0 X30 f32 (rm_au36 G f32 f43 f44 f45 Es30 Cs30 Vs30 f46 f47 Bs30 (by omega)) (u33 G) (sS (by omega) f42 all0) d24_16 rfl rfl rfl lr (by decide) (aR (by omega) (aR (by omega) all0)) ?_
  rintro _ _ _ _ X52 ⟨rfl, q53, q54, q55, q56, q57, q58⟩ K52 _ C52
  refine sk [.ref b1] rfl <| oA 20 X52 d24_19 rfl rfl ?_
  have f59 := ((((F1.ext E1).k1 K5 (by omega)).k2 K23 (by omega)).ext E30).k2 K52 (by omega)
  refine oF 23 X52 (w161 G) Via.refl f59 d24_20 rfl ?_
  intro _ X61
  have f62 := f36.keep K52
  have f63 := ((((F4.ext E1).k1 K5 (by omega)).k2 K23 (by omega)).ext E30).k2 K52 (by omega)
  have f64 := f38.keep K52
  have f65 := ((((F9.ext E1).k1 K5 (by omega)).k2 K23 (by omega)).ext E30).k2 K52 (by omega)
  have f66 := ((((F10.ext E1).k1 K5 (by omega)).k2 K23 (by omega)).ext E30).k2 K52 (by omega)
  have f67 := ((((F11.ext E1).k1 K5 (by omega)).k2 K23 (by omega)).ext E30).k2 K52 (by omega)
  have f68 := ((((F14.ext E1).k1 K5 (by omega)).k2 K23 (by omega)).ext E30).k2 K52 (by omega)
  have f69 := ((((F16.ext E1).keep K5).keep K23).ext E30).keep K52
  have f70 := ((((F17.ext E1).k1 K5 (by omega)).k2 K23 (by omega)).ext E30).k2 K52 (by omega)
  have f71 := ((((F18.ext E1).k1 K5 (by omega)).k2 K23 (by omega)).ext E30).k2 K52 (by omega)
  have f72 := ((((F19.ext E1).k1 K5 (by omega)).k2 K23 (by omega)).ext E30).k2 K52 (by omega)
  have f73 := C52.safe (own_lt (by omega)) f42
  refine mV 26 0 X61 q53 (rm_au104 G q53 q54 q55 q56 f62 f63 q57 q58 f64 f65 f66 f67 f68 f69 f70 f71 f72 (by omega)) (u41 G) (sS (by omega) f73 all0) d24_23 rfl rfl rfl lr (by decide) (aR (by omega) (aR (by omega) all0)) ?_
  rintro _ _ _ _ X74 ⟨rfl, q75, q76, q77, q78, q79, _⟩ _ _ _
  refine sk [.ref b1] rfl <| mV 29 0 X74 q75 (rm_au109 G q75 q76 q77 q78 q79) (u51 G) all0 d24_26 rfl rfl rfl lr (by decide) all0 ?_
  rintro _ _ _ _ X81 ⟨xa1_82, xa2_83, xk1_84, rfl, q85, q86, q87, q88, q89, q90, q91, _⟩ _ _ _
  refine sk [.ref xa1_82] rfl ?_
  exact oR X81 d24_29 rfl rfl rfl (by decide) (by decide) (fun _ CC => ⟨xa1_82, xa2_83, xk1_84, rfl, q85, q86, q87, (CC.safe (own_lt (by omega)) q88), q89, q90, (CC.safe (own_lt (by omega)) q91), by omega⟩)
theorem rm_au111 (G : GL l Z a0 zc dce kdce eed keed mroa mral mrul mrur) (F0 : av0 Z h0 pa1 pk1 5 [.int pi1, .int pi2, .int pi3, .int pi4, .int pi5]) (F1 : av0 Z h0 pa2 pk2 5 [.int pi1, .int pi6, .int pi7, .int pi4, .int pi8]) (pc_0 : pi2 = pi6) (pc_1 : pi3 = pi7) (pc_2 : pi5 = pi8) : M53 l Z 0 0 0 0 #[.ref pa1, .ref pa2] h0 n0 [] [] (Q0 Z  h0) := by
  refine mi B53 ef11 (hEW G) fun s X0 hsf0 n0le => ?_
  have := F0.l
  have := F1.l
  refine oA 1 X0 d53_0 rfl rfl <| oL 2 X0 F0 d53_1 rfl <| oA 3 X0 d53_2 rfl rfl <| oL 4 X0 F1 d53_3 rfl <| oN 7 X0 d53_4 rfl (teq (by decide)).2 <| oc 8 (v := 0) X0 d53_7 rfl (by decide) <| oT 9 (l' := #[rr pa1, rr pa2, ii 0]) X0 d53_8 rfl rfl <| oI 10 X0 d53_9 rfl rfl <| oA 11 X0 d53_10 rfl rfl <| oL 12 X0 F0 d53_11 rfl <| oN 15 X0 d53_12 rfl (tlt (by decide)).2.1 <| oA 16 X0 d53_15 rfl rfl ?_
  refine oI 17 X0 d53_16 rfl rfl <| oB 18 (v := (.int pi1)) X0 F0 ⟨by decide, by decide⟩ rfl d53_17 rfl <| oA 19 X0 d53_18 rfl rfl <| oI 20 X0 d53_19 rfl rfl <| oB 21 (v := (.int pi1)) X0 F1 ⟨by decide, by decide⟩ rfl d53_20 rfl <| oY 26 X0 d53_21 (by decide) (teq rfl).1 <| oJ 29 1 #[rr pa1, rr pa2, ii 1] X0 d53_26 rfl rfl (by decide) rfl <| og 9 X0 d53_29 (by decide) <| oI 10 X0 d53_9 rfl rfl <| oA 11 X0 d53_10 rfl rfl <| oL 12 X0 F0 d53_11 rfl <| oN 15 X0 d53_12 rfl (tlt (by decide)).2.1 ?_
  refine oA 16 X0 d53_15 rfl rfl <| oI 17 X0 d53_16 rfl rfl <| oB 18 (v := (.int pi2)) X0 F0 ⟨by decide, by decide⟩ rfl d53_17 rfl <| oA 19 X0 d53_18 rfl rfl <| oI 20 X0 d53_19 rfl rfl <| oB 21 (v := (.int pi6)) X0 F1 ⟨by decide, by decide⟩ rfl d53_20 rfl <| oY 26 X0 d53_21 (by decide) (teq pc_0).1 <| oJ 29 2 #[rr pa1, rr pa2, ii 2] X0 d53_26 rfl rfl (by decide) rfl <| og 9 X0 d53_29 (by decide) <| oI 10 X0 d53_9 rfl rfl <| oA 11 X0 d53_10 rfl rfl <| oL 12 X0 F0 d53_11 rfl ?_
  refine oN 15 X0 d53_12 rfl (tlt (by decide)).2.1 <| oA 16 X0 d53_15 rfl rfl <| oI 17 X0 d53_16 rfl rfl <| oB 18 (v := (.int pi3)) X0 F0 ⟨by decide, by decide⟩ rfl d53_17 rfl <| oA 19 X0 d53_18 rfl rfl <| oI 20 X0 d53_19 rfl rfl <| oB 21 (v := (.int pi7)) X0 F1 ⟨by decide, by decide⟩ rfl d53_20 rfl <| oY 26 X0 d53_21 (by decide) (teq pc_1).1 <| oJ 29 3 #[rr pa1, rr pa2, ii 3] X0 d53_26 rfl rfl (by decide) rfl <| og 9 X0 d53_29 (by decide) <| oI 10 X0 d53_9 rfl rfl <| oA 11 X0 d53_10 rfl rfl ?_
  refine oL 12 X0 F0 d53_11 rfl <| oN 15 X0 d53_12 rfl (tlt (by decide)).2.1 <| oA 16 X0 d53_15 rfl rfl <| oI 17 X0 d53_16 rfl rfl <| oB 18 (v := (.int pi4)) X0 F0 ⟨by decide, by decide⟩ rfl d53_17 rfl <| oA 19 X0 d53_18 rfl rfl <| oI 20 X0 d53_19 rfl rfl <| oB 21 (v := (.int pi4)) X0 F1 ⟨by decide, by decide⟩ rfl d53_20 rfl <| oY 26 X0 d53_21 (by decide) (teq rfl).1 <| oJ 29 4 #[rr pa1, rr pa2, ii 4] X0 d53_26 rfl rfl (by decide) rfl <| og 9 X0 d53_29 (by decide) <| oI 10 X0 d53_9 rfl rfl ?_
  refine oA 11 X0 d53_10 rfl rfl <| oL 12 X0 F0 d53_11 rfl <| oN 15 X0 d53_12 rfl (tlt (by decide)).2.1 <| oA 16 X0 d53_15 rfl rfl <| oI 17 X0 d53_16 rfl rfl <| oB 18 (v := (.int pi5)) X0 F0 ⟨by decide, by decide⟩ rfl d53_17 rfl <| oA 19 X0 d53_18 rfl rfl <| oI 20 X0 d53_19 rfl rfl <| oB 21 (v := (.int pi8)) X0 F1 ⟨by decide, by decide⟩ rfl d53_20 rfl <| oY 26 X0 d53_21 (by decide) (teq pc_2).1 <| oJ 29 5 #[rr pa1, rr pa2, ii 5] X0 d53_26 rfl rfl (by decide) rfl <| og 9 X0 d53_29 (by decide) ?_
  refine oI 10 X0 d53_9 rfl rfl <| oA 11 X0 d53_10 rfl rfl <| oL 12 X0 F0 d53_11 rfl <| oY 32 X0 d53_12 (by decide) (flt (by decide)).2.1 <| oc 33 (v := 1) X0 d53_32 rfl (by decide) ?_
  exact o_nret (y := (1 : Int32)) (t := .boolean) X0 d53_33 rfl (by decide) (by simp) (by decide) (by decide) (fun _ CC => rfl)
theorem rm_au112 (G : GL l Z a0 zc dce kdce eed keed mroa mral mrul mrur) (F0 : fd1 Z h0 pa1 (.int pi100)) (F1 : fd0 Z h0 pa1 (.ref pa3)) (F2 : ex1 Z h0 pa2) (F3 : fd1 Z h0 pa2 (.int pi101)) (F4 : fd0 Z h0 pa2 (.ref pa4)) (F5 : av0 Z h0 pa3 pk1 5 [.int pi1, .int pi102, .int pi103, .int pi2, .int pi104]) (F6 : av0 Z h0 pa4 pk2 5 [.int pi1, .int pi105, .int pi106, .int pi2, .int pi107]) (pc_0 : pi100 = pi101) (pc_1 : pi102 = pi105) (pc_2 : pi103 = pi106) (pc_3 : pi104 = pi107) (ne : NE pa1 pa2) : M52 l Z 1 0 0 14 #[.ref pa1, .ref pa2] h0 n0 [] [] (Q0 Z  h0) := by
  refine mi B52 ef11 (hEW G) fun s X0 hsf0 n0le => ?_
  have := F0.l
  have := F2.l
  have := F5.l
  have := F6.l
  refine oA 1 X0 d52_0 rfl rfl <| oA 2 X0 d52_1 rfl rfl <| o_acmp 7 (same := false) X0 d52_2 rfl rfl (decide_eq_false (fun q => absurd (Value.ref.inj q) (own_ne (by omega)))) (by decide) (by decide) <| oA 8 X0 d52_7 rfl rfl <| o_instY 11 X0 (w9 G) (Ins.self F2) d52_8 rfl ?_
  intro _ X2
  refine on 14 X2 d52_11 rfl ((if0 _ _).trans (feq (by decide)).1) <| oA 15 X2 d52_14 rfl rfl <| o_castY 18 X2 (w9 G) (Ins.self F2) d52_15 rfl ?_
  intro _ X4
  refine oV 19 (l' := #[rr pa1, rr pa2, rr pa2]) X4 d52_18 rfl rfl rfl <| oG 22 X4 (w4 G) Via.refl ((sg10 G).ext X4.old.2) d52_19 rfl ?_
  intro _ X6
  refine on 25 X6 d52_22 rfl ((if0 _ _).trans (feq (hzc G)).1) <| oA 26 X6 d52_25 rfl rfl <| oF 29 X6 (w24 G) Via.refl F0 d52_26 rfl ?_
  intro _ X8
  refine oA 30 X8 d52_29 rfl rfl <| oF 33 X8 (w24 G) Via.refl F3 d52_30 rfl ?_
  intro _ X10
  refine oN 36 X10 d52_33 rfl (teq pc_0).2 <| oA 37 X10 d52_36 rfl rfl <| oF 40 X10 (w22 G) Via.refl F1 d52_37 rfl ?_
  intro _ X12
  refine oA 41 X12 d52_40 rfl rfl <| oF 44 X12 (w22 G) Via.refl F4 d52_41 rfl ?_
  intro _ X14
  refine mS 47 0 X14 (rm_au111 G F5 F6 pc_1 pc_2 pc_3) (u53 G) all0 d52_44 rfl rfl rfl lr (by decide) all0 ?_
  rintro _ _ _ _ X15 rfl _ _ _
  refine sk [.int 1] rfl <| on 50 X15 d52_47 rfl ((if0 _ _).trans (feq (by decide)).1) <| oc 51 (v := 1) X15 d52_50 rfl (by decide) <| og 55 X15 d52_51 (by decide) ?_
  exact o_nret (y := (1 : Int32)) (t := .boolean) X15 d52_55 rfl (by decide) (by simp) (by decide) (by decide) (fun _ CC => rfl)
def Q59 (Z : State) (b1 : Addr) (b2 : ClassId) (b3 b4 b5 : Int32) (h0 : Heap) (v : Option Value) (h : Heap) (vm : Vm) : Prop := v = some (.int 8) ∧ av0 Z h b1 b2 8 [.int (b3.toInt8.toInt32), .int 32, .int 91, .int (b4.toInt8.toInt32), .int 44, .int 32, .int (b5.toInt8.toInt32), .int 93] ∧ ex0 Z h b1
theorem rm_au113 (G : GL l Z a0 zc dce kdce eed keed mroa mral mrul mrur) (F0 : av1 Z h0 pa1 pk1 8 [.int pi1, .int 32, .int 91, .int pi2, .int 44, .int 32, .int pi3, .int 93]) (F1 : av0 Z h0 pa2 pk2 8 [i0, i0, i0, i0, i0, i0, i0, i0]) (F2 : ex0 Z h0 pa2) (rg_pi1 : ¬ pi1 < 0 ∧ ¬ (255 : Int32) < pi1) (rg_pi2 : ¬ pi2 < 0 ∧ ¬ (255 : Int32) < pi2) (rg_pi3 : ¬ pi3 < 0 ∧ ¬ (255 : Int32) < pi3) (ne : NE pa1 pa2 ∧ n0 ≤ pa2) : M9 l Z 0 0 0 0 #[.ref pa1, i0, .ref pa2, i0, .int 8] h0 n0 [pa2] [pa2] (Q59 Z pa2 pk2 pi1 pi2 pi3 h0) := by
  refine mi B9 ef7 (hEW G) fun s X0 hsf0 n0le => ?_
  have := F0.l
  have := F1.l
  have sf_pa2 := hsf0 pa2 (by simp)
  refine oc 1 (v := 0) X0 d9_0 rfl (by decide) <| oS 3 (l' := #[rr pa1, ii 0, rr pa2, ii 0, ii 8, ii 0, uu]) X0 d9_1 rfl rfl <| oi 5 X0 d9_3 rfl rfl <| oi 7 X0 d9_5 rfl rfl <| oN 10 X0 d9_7 rfl (tlt (by decide)).2.1 <| oA 11 X0 d9_10 rfl rfl <| oI 12 X0 d9_11 rfl rfl <| oC 13 (v := (.int pi1)) X0 F0 ⟨by decide, by decide⟩ rfl d9_12 rfl <| oS 15 (l' := #[rr pa1, ii 0, rr pa2, ii 0, ii 8, ii 0, ii pi1]) X0 d9_13 rfl rfl <| oi 17 X0 d9_15 rfl rfl <| o_sipush 20 (v := 255) X0 d9_17 rfl (by decide) <| oY 26 X0 d9_20 (by decide) (flt rg_pi1.2).2.2.2 ?_
  refine oA 27 X0 d9_26 rfl rfl <| oI 28 X0 d9_27 rfl rfl <| oi 30 X0 d9_28 rfl rfl <| o_i2b 31 (v := (pi1.toInt8.toInt32)) X0 d9_30 rfl rfl <| sB 32 0 (pi1.toInt8.toInt32) X0 F1 (by decide) (lb rfl) (own_narB _) d9_31 rfl (by omega) (Or.inl (by simp)) sf_pa2 ?_
  rintro _ _ X1 ⟨_, _, W1⟩ C1 V1
  have := W1.size
  have V2 := V1.as [.int (pi1.toInt8.toInt32), i0, i0, i0, i0, i0, i0, i0] rfl
  refine oJ 35 1 #[rr pa1, ii 1, rr pa2, ii 0, ii 8, ii 0, ii pi1] X1 d9_32 rfl rfl (by decide) rfl <| oJ 38 1 #[rr pa1, ii 1, rr pa2, ii 1, ii 8, ii 0, ii pi1] X1 d9_35 rfl rfl (by decide) rfl <| oJ 41 1 #[rr pa1, ii 1, rr pa2, ii 1, ii 8, ii 1, ii pi1] X1 d9_38 rfl rfl (by decide) rfl <| og 3 X1 d9_41 (by decide) <| oi 5 X1 d9_3 rfl rfl <| oi 7 X1 d9_5 rfl rfl <| oN 10 X1 d9_7 rfl (tlt (by decide)).2.1 <| oA 11 X1 d9_10 rfl rfl <| oI 12 X1 d9_11 rfl rfl ?_
  have f3 := F0.oth W1 (by omega)
  refine oC 13 (v := (.int 32)) X1 f3 ⟨by decide, by decide⟩ rfl d9_12 rfl <| oS 15 (l' := #[rr pa1, ii 1, rr pa2, ii 1, ii 8, ii 1, ii 32]) X1 d9_13 rfl rfl <| oi 17 X1 d9_15 rfl rfl <| o_sipush 20 (v := 255) X1 d9_17 rfl (by decide) <| oY 26 X1 d9_20 (by decide) (flt (by decide)).2.2.2 <| oA 27 X1 d9_26 rfl rfl <| oI 28 X1 d9_27 rfl rfl <| oi 30 X1 d9_28 rfl rfl <| o_i2b 31 (v := 32) X1 d9_30 rfl (by decide) ?_
  have f5 := C1.safe (own_lt (by omega)) sf_pa2
  refine sB 32 1 32 X1 V2 (by decide) (lb rfl) (by decide) d9_31 rfl (by omega) (Or.inl (by simp)) f5 ?_
  rintro _ _ X4 ⟨_, _, W4⟩ C4 V4
  have := W4.size
  have V6 := V4.as [.int (pi1.toInt8.toInt32), .int 32, i0, i0, i0, i0, i0, i0] rfl
  refine oJ 35 2 #[rr pa1, ii 2, rr pa2, ii 1, ii 8, ii 1, ii 32] X4 d9_32 rfl rfl (by decide) rfl <| oJ 38 2 #[rr pa1, ii 2, rr pa2, ii 2, ii 8, ii 1, ii 32] X4 d9_35 rfl rfl (by decide) rfl <| oJ 41 2 #[rr pa1, ii 2, rr pa2, ii 2, ii 8, ii 2, ii 32] X4 d9_38 rfl rfl (by decide) rfl <| og 3 X4 d9_41 (by decide) <| oi 5 X4 d9_3 rfl rfl <| oi 7 X4 d9_5 rfl rfl <| oN 10 X4 d9_7 rfl (tlt (by decide)).2.1 <| oA 11 X4 d9_10 rfl rfl <| oI 12 X4 d9_11 rfl rfl ?_
  have f7 := f3.oth W4 (by omega)
  refine oC 13 (v := (.int 91)) X4 f7 ⟨by decide, by decide⟩ rfl d9_12 rfl <| oS 15 (l' := #[rr pa1, ii 2, rr pa2, ii 2, ii 8, ii 2, ii 91]) X4 d9_13 rfl rfl <| oi 17 X4 d9_15 rfl rfl <| o_sipush 20 (v := 255) X4 d9_17 rfl (by decide) <| oY 26 X4 d9_20 (by decide) (flt (by decide)).2.2.2 <| oA 27 X4 d9_26 rfl rfl <| oI 28 X4 d9_27 rfl rfl <| oi 30 X4 d9_28 rfl rfl <| o_i2b 31 (v := 91) X4 d9_30 rfl (by decide) ?_
  have f9 := C4.safe (own_lt (by omega)) f5
  refine sB 32 2 91 X4 V6 (by decide) (lb rfl) (by decide) d9_31 rfl (by omega) (Or.inl (by simp)) f9 ?_
  rintro _ _ X8 ⟨_, _, W8⟩ C8 V8
  have := W8.size
  have V10 := V8.as [.int (pi1.toInt8.toInt32), .int 32, .int 91, i0, i0, i0, i0, i0] rfl
  refine oJ 35 3 #[rr pa1, ii 3, rr pa2, ii 2, ii 8, ii 2, ii 91] X8 d9_32 rfl rfl (by decide) rfl <| oJ 38 3 #[rr pa1, ii 3, rr pa2, ii 3, ii 8, ii 2, ii 91] X8 d9_35 rfl rfl (by decide) rfl <| oJ 41 3 #[rr pa1, ii 3, rr pa2, ii 3, ii 8, ii 3, ii 91] X8 d9_38 rfl rfl (by decide) rfl <| og 3 X8 d9_41 (by decide) <| oi 5 X8 d9_3 rfl rfl <| oi 7 X8 d9_5 rfl rfl <| oN 10 X8 d9_7 rfl (tlt (by decide)).2.1 <| oA 11 X8 d9_10 rfl rfl <| oI 12 X8 d9_11 rfl rfl ?_
  have f11 := f7.oth W8 (by omega)
  refine oC 13 (v := (.int pi2)) X8 f11 ⟨by decide, by decide⟩ rfl d9_12 rfl <| oS 15 (l' := #[rr pa1, ii 3, rr pa2, ii 3, ii 8, ii 3, ii pi2]) X8 d9_13 rfl rfl <| oi 17 X8 d9_15 rfl rfl <| o_sipush 20 (v := 255) X8 d9_17 rfl (by decide) <| oY 26 X8 d9_20 (by decide) (flt rg_pi2.2).2.2.2 <| oA 27 X8 d9_26 rfl rfl <| oI 28 X8 d9_27 rfl rfl <| oi 30 X8 d9_28 rfl rfl <| o_i2b 31 (v := (pi2.toInt8.toInt32)) X8 d9_30 rfl rfl ?_
  have f13 := C8.safe (own_lt (by omega)) f9
  refine sB 32 3 (pi2.toInt8.toInt32) X8 V10 (by decide) (lb rfl) (own_narB _) d9_31 rfl (by omega) (Or.inl (by simp)) f13 ?_
  rintro _ _ X12 ⟨_, _, W12⟩ C12 V12
  have := W12.size
  have V14 := V12.as [.int (pi1.toInt8.toInt32), .int 32, .int 91, .int (pi2.toInt8.toInt32), i0, i0, i0, i0] rfl
  refine oJ 35 4 #[rr pa1, ii 4, rr pa2, ii 3, ii 8, ii 3, ii pi2] X12 d9_32 rfl rfl (by decide) rfl <| oJ 38 4 #[rr pa1, ii 4, rr pa2, ii 4, ii 8, ii 3, ii pi2] X12 d9_35 rfl rfl (by decide) rfl <| oJ 41 4 #[rr pa1, ii 4, rr pa2, ii 4, ii 8, ii 4, ii pi2] X12 d9_38 rfl rfl (by decide) rfl <| og 3 X12 d9_41 (by decide) <| oi 5 X12 d9_3 rfl rfl <| oi 7 X12 d9_5 rfl rfl <| oN 10 X12 d9_7 rfl (tlt (by decide)).2.1 <| oA 11 X12 d9_10 rfl rfl <| oI 12 X12 d9_11 rfl rfl ?_
  have f15 := f11.oth W12 (by omega)
  refine oC 13 (v := (.int 44)) X12 f15 ⟨by decide, by decide⟩ rfl d9_12 rfl <| oS 15 (l' := #[rr pa1, ii 4, rr pa2, ii 4, ii 8, ii 4, ii 44]) X12 d9_13 rfl rfl <| oi 17 X12 d9_15 rfl rfl <| o_sipush 20 (v := 255) X12 d9_17 rfl (by decide) <| oY 26 X12 d9_20 (by decide) (flt (by decide)).2.2.2 <| oA 27 X12 d9_26 rfl rfl <| oI 28 X12 d9_27 rfl rfl <| oi 30 X12 d9_28 rfl rfl <| o_i2b 31 (v := 44) X12 d9_30 rfl (by decide) ?_
  have f17 := C12.safe (own_lt (by omega)) f13
  refine sB 32 4 44 X12 V14 (by decide) (lb rfl) (by decide) d9_31 rfl (by omega) (Or.inl (by simp)) f17 ?_
  rintro _ _ X16 ⟨_, _, W16⟩ C16 V16
  have := W16.size
  have V18 := V16.as [.int (pi1.toInt8.toInt32), .int 32, .int 91, .int (pi2.toInt8.toInt32), .int 44, i0, i0, i0] rfl
  refine oJ 35 5 #[rr pa1, ii 5, rr pa2, ii 4, ii 8, ii 4, ii 44] X16 d9_32 rfl rfl (by decide) rfl <| oJ 38 5 #[rr pa1, ii 5, rr pa2, ii 5, ii 8, ii 4, ii 44] X16 d9_35 rfl rfl (by decide) rfl <| oJ 41 5 #[rr pa1, ii 5, rr pa2, ii 5, ii 8, ii 5, ii 44] X16 d9_38 rfl rfl (by decide) rfl <| og 3 X16 d9_41 (by decide) <| oi 5 X16 d9_3 rfl rfl <| oi 7 X16 d9_5 rfl rfl <| oN 10 X16 d9_7 rfl (tlt (by decide)).2.1 <| oA 11 X16 d9_10 rfl rfl <| oI 12 X16 d9_11 rfl rfl ?_
  have f19 := f15.oth W16 (by omega)
  refine oC 13 (v := (.int 32)) X16 f19 ⟨by decide, by decide⟩ rfl d9_12 rfl <| oS 15 (l' := #[rr pa1, ii 5, rr pa2, ii 5, ii 8, ii 5, ii 32]) X16 d9_13 rfl rfl <| oi 17 X16 d9_15 rfl rfl <| o_sipush 20 (v := 255) X16 d9_17 rfl (by decide) <| oY 26 X16 d9_20 (by decide) (flt (by decide)).2.2.2 <| oA 27 X16 d9_26 rfl rfl <| oI 28 X16 d9_27 rfl rfl <| oi 30 X16 d9_28 rfl rfl <| o_i2b 31 (v := 32) X16 d9_30 rfl (by decide) ?_
  have f21 := C16.safe (own_lt (by omega)) f17
  refine sB 32 5 32 X16 V18 (by decide) (lb rfl) (by decide) d9_31 rfl (by omega) (Or.inl (by simp)) f21 ?_
  rintro _ _ X20 ⟨_, _, W20⟩ C20 V20
  have := W20.size
  have V22 := V20.as [.int (pi1.toInt8.toInt32), .int 32, .int 91, .int (pi2.toInt8.toInt32), .int 44, .int 32, i0, i0] rfl
  refine oJ 35 6 #[rr pa1, ii 6, rr pa2, ii 5, ii 8, ii 5, ii 32] X20 d9_32 rfl rfl (by decide) rfl <| oJ 38 6 #[rr pa1, ii 6, rr pa2, ii 6, ii 8, ii 5, ii 32] X20 d9_35 rfl rfl (by decide) rfl <| oJ 41 6 #[rr pa1, ii 6, rr pa2, ii 6, ii 8, ii 6, ii 32] X20 d9_38 rfl rfl (by decide) rfl <| og 3 X20 d9_41 (by decide) <| oi 5 X20 d9_3 rfl rfl <| oi 7 X20 d9_5 rfl rfl <| oN 10 X20 d9_7 rfl (tlt (by decide)).2.1 <| oA 11 X20 d9_10 rfl rfl <| oI 12 X20 d9_11 rfl rfl ?_
  have f23 := f19.oth W20 (by omega)
  refine oC 13 (v := (.int pi3)) X20 f23 ⟨by decide, by decide⟩ rfl d9_12 rfl <| oS 15 (l' := #[rr pa1, ii 6, rr pa2, ii 6, ii 8, ii 6, ii pi3]) X20 d9_13 rfl rfl <| oi 17 X20 d9_15 rfl rfl <| o_sipush 20 (v := 255) X20 d9_17 rfl (by decide) <| oY 26 X20 d9_20 (by decide) (flt rg_pi3.2).2.2.2 <| oA 27 X20 d9_26 rfl rfl <| oI 28 X20 d9_27 rfl rfl <| oi 30 X20 d9_28 rfl rfl <| o_i2b 31 (v := (pi3.toInt8.toInt32)) X20 d9_30 rfl rfl ?_
  have f25 := C20.safe (own_lt (by omega)) f21
  refine sB 32 6 (pi3.toInt8.toInt32) X20 V22 (by decide) (lb rfl) (own_narB _) d9_31 rfl (by omega) (Or.inl (by simp)) f25 ?_
  rintro _ _ X24 ⟨_, _, W24⟩ C24 V24
  have := W24.size
  have V26 := V24.as [.int (pi1.toInt8.toInt32), .int 32, .int 91, .int (pi2.toInt8.toInt32), .int 44, .int 32, .int (pi3.toInt8.toInt32), i0] rfl
  refine oJ 35 7 #[rr pa1, ii 7, rr pa2, ii 6, ii 8, ii 6, ii pi3] X24 d9_32 rfl rfl (by decide) rfl <| oJ 38 7 #[rr pa1, ii 7, rr pa2, ii 7, ii 8, ii 6, ii pi3] X24 d9_35 rfl rfl (by decide) rfl <| oJ 41 7 #[rr pa1, ii 7, rr pa2, ii 7, ii 8, ii 7, ii pi3] X24 d9_38 rfl rfl (by decide) rfl <| og 3 X24 d9_41 (by decide) <| oi 5 X24 d9_3 rfl rfl <| oi 7 X24 d9_5 rfl rfl <| oN 10 X24 d9_7 rfl (tlt (by decide)).2.1 <| oA 11 X24 d9_10 rfl rfl <| oI 12 X24 d9_11 rfl rfl ?_
  have f27 := f23.oth W24 (by omega)
  refine oC 13 (v := (.int 93)) X24 f27 ⟨by decide, by decide⟩ rfl d9_12 rfl <| oS 15 (l' := #[rr pa1, ii 7, rr pa2, ii 7, ii 8, ii 7, ii 93]) X24 d9_13 rfl rfl <| oi 17 X24 d9_15 rfl rfl <| o_sipush 20 (v := 255) X24 d9_17 rfl (by decide) <| oY 26 X24 d9_20 (by decide) (flt (by decide)).2.2.2 <| oA 27 X24 d9_26 rfl rfl <| oI 28 X24 d9_27 rfl rfl <| oi 30 X24 d9_28 rfl rfl <| o_i2b 31 (v := 93) X24 d9_30 rfl (by decide) ?_
  have f29 := C24.safe (own_lt (by omega)) f25
  refine sB 32 7 93 X24 V26 (by decide) (lb rfl) (by decide) d9_31 rfl (by omega) (Or.inl (by simp)) f29 ?_
  rintro _ _ X28 ⟨_, _, W28⟩ _ V28
  have := W28.size
  have V30 := V28.as [.int (pi1.toInt8.toInt32), .int 32, .int 91, .int (pi2.toInt8.toInt32), .int 44, .int 32, .int (pi3.toInt8.toInt32), .int 93] rfl
  refine oJ 35 8 #[rr pa1, ii 8, rr pa2, ii 7, ii 8, ii 7, ii 93] X28 d9_32 rfl rfl (by decide) rfl <| oJ 38 8 #[rr pa1, ii 8, rr pa2, ii 8, ii 8, ii 7, ii 93] X28 d9_35 rfl rfl (by decide) rfl <| oJ 41 8 #[rr pa1, ii 8, rr pa2, ii 8, ii 8, ii 8, ii 93] X28 d9_38 rfl rfl (by decide) rfl <| og 3 X28 d9_41 (by decide) <| oi 5 X28 d9_3 rfl rfl <| oi 7 X28 d9_5 rfl rfl <| oY 44 X28 d9_7 (by decide) (flt (by decide)).2.1 <| oi 46 X28 d9_44 rfl rfl ?_
  have f31 := (((((((F2.wr W1).wr W4).wr W8).wr W12).wr W16).wr W20).wr W24).wr W28
  exact o_iret X28 d9_46 rfl (by decide) (by decide) (fun _ CC => ⟨rfl, V30, f31⟩)
def Q60 (Z : State) (b1 b2 b3 : Int32) (h0 : Heap) (v : Option Value) (h : Heap) (vm : Vm) : Prop := ∃ (xa1 : Addr) (xk1 : ClassId), v = some (.ref xa1) ∧ av0 Z h xa1 xk1 8 [.int (b1.toInt8.toInt32), .int 32, .int 91, .int (b2.toInt8.toInt32), .int 44, .int 32, .int (b3.toInt8.toInt32), .int 93] ∧ ex0 Z h xa1 ∧ Safe Z EL0 vm h xa1 ∧ h0.size ≤ xa1 ∧ h.size > xa1
theorem rm_au114 (G : GL l Z a0 zc dce kdce eed keed mroa mral mrul mrur) (F0 : av1 Z h0 pa1 pk1 8 [.int pi1, .int 32, .int 91, .int pi2, .int 44, .int 32, .int pi3, .int 93]) (rg_pi1 : ¬ pi1 < 0 ∧ ¬ (255 : Int32) < pi1) (rg_pi2 : ¬ pi2 < 0 ∧ ¬ (255 : Int32) < pi2) (rg_pi3 : ¬ pi3 < 0 ∧ ¬ (255 : Int32) < pi3) : M8 l Z 1 1 8 18 #[.ref pa1, i0, .int 8] h0 n0 [] [] (Q60 Z pi1 pi2 pi3 h0) := by
  refine mi B8 ef6 (hEW G) fun s X0 hsf0 n0le => ?_
  have l1 := F0.l
  refine oI 1 X0 d8_0 rfl rfl <| nP (aty := .byte) 3 8 X0 (w14 G) d8_1 rfl (by decide) had_byte ?_
  intro _ h1 b1 k1 X1 _ l1 E1 V1 A1 _ S1
  have V2 : av0 Z h1 b1 k1 8 [i0, i0, i0, i0, i0, i0, i0, i0] := V1.pad (pad_rep [] (.int (0 : Int32)) 8)
  refine oV 4 (l' := #[rr pa1, ii 0, ii 8, rr b1, uu, uu]) X1 d8_3 rfl rfl rfl <| oA 5 X1 d8_4 rfl rfl <| oI 6 X1 d8_5 rfl rfl <| oA 7 X1 d8_6 rfl rfl <| oc 8 (v := 0) X1 d8_7 rfl (by decide) <| oI 9 X1 d8_8 rfl rfl ?_
  have f3 := F0.ext E1
  refine mS 12 0 X1 (rm_au113 G f3 V2 A1 rg_pi1 rg_pi2 rg_pi3 (by omega)) (u4 G) (sS (by omega) S1 all0) d8_9 rfl rfl rfl lr (by decide) (aR (by omega) all0) ?_
  rintro _ _ _ _ X4 ⟨rfl, q5, q6⟩ _ _ C4
  refine sk [.int 8] rfl <| oS 14 (l' := #[rr pa1, ii 0, ii 8, rr b1, ii 8, uu]) X4 d8_12 rfl rfl <| oi 16 X4 d8_14 rfl rfl <| oI 17 X4 d8_16 rfl rfl <| oY 57 X4 d8_17 (by decide) (teq (by decide)).1 <| oA 58 X4 d8_57 rfl rfl ?_
  have f7 := C4.safe (own_lt (by omega)) S1
  exact oR X4 d8_58 rfl rfl rfl (by decide) (by decide) (fun _ CC => ⟨b1, k1, rfl, q5, q6, (CC.safe (own_lt (by omega)) f7), by omega⟩)
theorem rm_au115 (G : GL l Z a0 zc dce kdce eed keed mroa mral mrul mrur) (F0 : av0 Z h0 pa1 pk1 8 ps_pa1) : M10 l Z 0 0 0 0 #[.ref pa1, .int 8] h0 n0 [] [] (Q6 Z  h0) := by
  refine mi B10 ef8 (hEW G) fun s X0 hsf0 n0le => ?_
  have := F0.l
  refine oI 1 X0 d10_0 rfl rfl <| oA 2 X0 d10_1 rfl rfl <| oL 3 X0 F0 d10_2 rfl <| o_isub 4 (v := 0) X0 d10_3 rfl (by decide) <| ob 6 (v := 31) X0 d10_4 rfl (by decide) <| o_iushr 7 (v := 0) X0 d10_6 rfl (by decide) <| o_i2b 8 (v := 0) X0 d10_7 rfl (by decide) ?_
  exact o_nret (y := (0 : Int32)) (t := .byte) X0 d10_8 rfl (by decide) (by simp) (by decide) (by decide) (fun _ CC => rfl)
def Q61 (Z : State) (b1 : Addr) (b2 b3 b4 : Int32) (h0 : Heap) (v : Option Value) (h : Heap) (vm : Vm) : Prop := ∃ (xa1 : Addr) (xk1 : ClassId), v = none ∧ ex1 Z h b1 ∧ fd1 Z h b1 (.int 0) ∧ fd0 Z h b1 (.ref xa1) ∧ av0 Z h xa1 xk1 8 [.int (b2.toInt8.toInt32), .int 32, .int 91, .int (b3.toInt8.toInt32), .int 44, .int 32, .int (b4.toInt8.toInt32), .int 93] ∧ ex0 Z h xa1 ∧ Safe Z EL0 vm h xa1 ∧ h0.size ≤ xa1 ∧ h.size > xa1
theorem rm_au116 (G : GL l Z a0 zc dce kdce eed keed mroa mral mrul mrur) (F0 : ex1 Z h0 pa1) (F1 : fd1 Z h0 pa1 (.int 0)) (F2 : fd0 Z h0 pa1 .null) (F3 : av1 Z h0 pa2 pk1 8 [.int pi1, .int 32, .int 91, .int pi2, .int 44, .int 32, .int pi3, .int 93]) (rg_pi1 : ¬ pi1 < 0 ∧ ¬ (255 : Int32) < pi1) (rg_pi2 : ¬ pi2 < 0 ∧ ¬ (255 : Int32) < pi2) (rg_pi3 : ¬ pi3 < 0 ∧ ¬ (255 : Int32) < pi3) (ne : NE pa1 pa2 ∧ n0 ≤ pa1) : M7 l Z 2 1 8 35 #[.ref pa1, .ref pa2, i0, .int 8, .null] h0 n0 [pa1] [pa1] (Q61 Z pa1 pi1 pi2 pi3 h0) := by
  refine mi B7 ef5 (hEW G) fun s X0 hsf0 n0le => ?_
  have := F0.l
  have := F3.l
  have sf_pa1 := hsf0 pa1 (by simp)
  refine oA 1 X0 d7_0 rfl rfl <| o_initO 4 (W := 0) X0 (w19 G) (w20 G) (w21 G) rfl (by decide) (Nat.le_of_eq rfl) (by decide) d7_1 rfl ?_
  intro _ X2
  refine oI 5 X2 d7_4 rfl rfl <| oy 27 X2 d7_5 (by decide) ((if0 _ _).trans (feq (by decide)).2) <| oG 30 X2 (w4 G) Via.refl ((sg10 G).ext X2.old.2) d7_27 rfl ?_
  intro _ X4
  refine on 33 X4 d7_30 rfl ((if0 _ _).trans (feq (hzc G)).1) <| oA 34 X4 d7_33 rfl rfl <| oI 35 X4 d7_34 rfl rfl <| oI 36 X4 d7_35 rfl rfl <| mS 39 0 X4 (rm_au114 G F3 rg_pi1 rg_pi2 rg_pi3) (u5 G) all0 d7_36 rfl rfl rfl lr (by decide) all0 ?_
  rintro _ _ _ _ X5 ⟨xa1_6, xk1_7, rfl, q8, q9, q10, _⟩ K5 _ C5
  refine sk [.ref xa1_6] rfl <| oU 41 (l' := #[rr pa1, rr pa2, ii 0, ii 8, .val .null, rr xa1_6]) X5 d7_39 rfl rfl rfl <| oA 42 X5 d7_41 rfl rfl <| oa 44 X5 d7_42 rfl rfl <| oI 45 X5 d7_44 rfl rfl <| mS 48 1 X5 (rm_au115 G q8) (u6 G) all0 d7_45 rfl rfl rfl lr (by decide) all0 ?_
  rintro _ _ _ _ X12 rfl K12 _ C12
  refine sk [i0, .ref pa1] rfl ?_
  have f13 := (F1.k0 K5).k0 K12
  have f14 := (F0.keep K5).keep K12
  have f16 := C12.safe (own_lt (by omega)) (C5.safe (own_lt (by omega)) sf_pa1)
  refine oP 51 (v' := (.int 0)) X12 (w24 G) Via.refl f13 f14 (Or.inr ⟨(w25 G), rfl, rfl⟩) (w10 G) fd_1 rfl rfl d7_48 rfl (by omega) (Or.inl (by simp)) f16 ?_
  intro _ _ X15 W15 C15
  have := W15.size
  have f17 := f13.same W15
  refine oA 52 X15 d7_51 rfl rfl <| oa 54 X15 d7_52 rfl rfl ?_
  have f18 := ((F2.k0 K5).k0 K12).other W15 (Or.inr (sn1 G))
  have f19 := f14.wr W15
  have f21 := C15.safe (own_lt (by omega)) f16
  refine oP 57 (v' := (.ref xa1_6)) X15 (w22 G) Via.refl f18 f19 (Or.inr ⟨(w23 G), rfl, rfl⟩) (w10 G) fd_0 rfl rfl d7_54 rfl (by omega) (Or.inl (by simp)) f21 ?_
  intro _ _ X20 W20 C20
  have := W20.size
  have f22 := f18.same W20
  have f23 := f19.wr W20
  have f24 := f17.other W20 (Or.inr (sn0 G))
  have f25 := ((q8.k0 K12).oth W15 (by omega)).oth W20 (by omega)
  have f26 := ((q9.keep K12).wr W15).wr W20
  have f27 := C20.safe (own_lt (by omega)) (C15.safe (own_lt (by omega)) (C12.safe (own_lt (by omega)) q10))
  exact oz X20 d7_57 rfl (by decide) (by decide) (fun _ CC => ⟨xa1_6, xk1_7, rfl, f23, f24, f22, f25, f26, (CC.safe (own_lt (by omega)) f27), by omega⟩)
theorem rm_au117 (G : GL l Z a0 zc dce kdce eed keed mroa mral mrul mrur) (F0 : ex1 Z h0 pa1) (F1 : fd1 Z h0 pa1 (.int 0)) (F2 : fd0 Z h0 pa1 .null) (F3 : av1 Z h0 pa2 pk1 8 [.int pi1, .int 32, .int 91, .int pi2, .int 44, .int 32, .int pi3, .int 93]) (rg_pi1 : ¬ pi1 < 0 ∧ ¬ (255 : Int32) < pi1) (rg_pi2 : ¬ pi2 < 0 ∧ ¬ (255 : Int32) < pi2) (rg_pi3 : ¬ pi3 < 0 ∧ ¬ (255 : Int32) < pi3) (ne : NE pa1 pa2 ∧ n0 ≤ pa1) : M6 l Z 3 1 8 52 #[.ref pa1, .ref pa2] h0 n0 [pa1] [pa1] (Q61 Z pa1 pi1 pi2 pi3 h0) := by
  refine mi B6 ef4 (hEW G) fun s X0 hsf0 n0le => ?_
  have := F0.l
  have := F3.l
  have sf_pa1 := hsf0 pa1 (by simp)
  refine oA 1 X0 d6_0 rfl rfl <| oA 2 X0 d6_1 rfl rfl <| oc 3 (v := 0) X0 d6_2 rfl (by decide) <| oA 4 X0 d6_3 rfl rfl <| oL 5 X0 F3 d6_4 rfl <| o_aconstNull 6 X0 d6_5 rfl <| mP 9 0 X0 (rm_au116 G F0 F1 F2 F3 rg_pi1 rg_pi2 rg_pi3 (by omega)) (u7 G) (sS (by omega) sf_pa1 all0) d6_6 rfl rfl rfl lr (by decide) (aI (by omega) (by simp) all0) ?_
  rintro _ _ _ _ X1 ⟨xa1_2, xk1_3, rfl, q4, q5, q6, q7, q8, q9, _⟩ _ _ _
  refine sk [] rfl ?_
  exact oz X1 d6_9 rfl (by decide) (by decide) (fun _ CC => ⟨xa1_2, xk1_3, rfl, q4, q5, q6, q7, q8, (CC.safe (own_lt (by omega)) q9), by omega⟩)
def Q62 (Z : State) (b1 b2 b3 : Int32) (h0 : Heap) (v : Option Value) (h : Heap) (vm : Vm) : Prop := ∃ (xa1 : Addr) (xa2 : Addr) (xk1 : ClassId), v = some (.ref xa1) ∧ ex1 Z h xa1 ∧ fd1 Z h xa1 (.int 0) ∧ fd0 Z h xa1 (.ref xa2) ∧ Safe Z EL0 vm h xa1 ∧ av0 Z h xa2 xk1 8 [.int (b1.toInt8.toInt32), .int 32, .int 91, .int (b2.toInt8.toInt32), .int 44, .int 32, .int (b3.toInt8.toInt32), .int 93] ∧ ex0 Z h xa2 ∧ Safe Z EL0 vm h xa2 ∧ h0.size ≤ xa1 ∧ h.size > xa1 ∧ h0.size ≤ xa2 ∧ h.size > xa2 ∧ NE xa1 xa2
theorem rm_au118 (G : GL l Z a0 zc dce kdce eed keed mroa mral mrul mrur) (rg_pi1 : ¬ pi1 < 0 ∧ ¬ (255 : Int32) < pi1) (rg_pi2 : ¬ pi2 < 0 ∧ ¬ (255 : Int32) < pi2) (rg_pi3 : ¬ pi3 < 0 ∧ ¬ (255 : Int32) < pi3) (rg_pi4 : ¬ pi4 < 0 ∧ ¬ (255 : Int32) < pi4) (pc_0 : ¬ pi100 = (0 : Int32)) (pc_1 : ¬ pi100 = (1 : Int32)) (pc_2 : pi100 = (2 : Int32)) : M5 l Z 4 3 20 66 #[.int pi100, .int pi1, .int pi2, .int pi3, .int pi4] h0 n0 [] [] (Q62 Z pi1 pi2 pi3 h0) := by
  refine mi B5 ef3 (hEW G) fun s X0 hsf0 n0le => ?_
  refine oI 1 X0 d5_0 rfl rfl <| oy 34 X0 d5_1 (by decide) ((if0 _ _).trans (feq pc_0).2) <| oI 35 X0 d5_34 rfl rfl <| oc 36 (v := 1) X0 d5_35 rfl (by decide) <| oY 73 X0 d5_36 (by decide) (feq pc_1).2 <| oI 74 X0 d5_73 rfl rfl <| oc 75 (v := 2) X0 d5_74 rfl (by decide) <| oN 78 X0 d5_75 rfl (teq pc_2).2 <| o_new 81 X0 (w30 G) (w10 G) (w2 G) d5_78 rfl (by decide) (by decide) ?_
  intro _ h1 b1 X1 _ _ _ A1 D1 _ _ S1
  have f2 : fd0 Z h1 b1 .null := D1 (Or.inr (w23 G)) fd_0
  have f3 : fd1 Z h1 b1 (.int 0) := D1 (Or.inr (w25 G)) fd_1
  refine oD 82 X1 d5_81 rfl rfl <| ob 84 (v := 8) X1 d5_82 rfl (by decide) <| nP (aty := .char) 86 8 X1 (w31 G) d5_84 rfl (by decide) had_char ?_
  intro _ h4 b4 k4 X4 _ _ E4 V4 A4 C4 _
  have V5 : av1 Z h4 b4 k4 8 [i0, i0, i0, i0, i0, i0, i0, i0] := V4.pad (pad_rep [] (.int (0 : Int32)) 8)
  refine oD 87 X4 d5_86 rfl rfl <| oc 88 (v := 0) X4 d5_87 rfl (by decide) <| oI 89 X4 d5_88 rfl rfl <| sC 90 0 pi1 X4 V5 (by decide) (lb rfl) (own_narC rg_pi1) d5_89 rfl (by omega) (Or.inr (by omega)) (sx X4 A4 nc0) ?_
  rintro _ _ X6 ⟨_, _, W6⟩ C6 V6
  have := W6.size
  have V7 := V6.as [.int pi1, i0, i0, i0, i0, i0, i0, i0] rfl
  refine oD 91 X6 d5_90 rfl rfl <| oc 92 (v := 1) X6 d5_91 rfl (by decide) <| ob 94 (v := 32) X6 d5_92 rfl (by decide) ?_
  have f9 := A4.wr W6
  refine sC 95 1 32 X6 V7 (by decide) (lb rfl) (by decide) d5_94 rfl (by omega) (Or.inr (by omega)) (sx X6 f9 nc0) ?_
  rintro _ _ X8 ⟨_, _, W8⟩ C8 V8
  have := W8.size
  have V10 := V8.as [.int pi1, .int 32, i0, i0, i0, i0, i0, i0] rfl
  refine oD 96 X8 d5_95 rfl rfl <| oc 97 (v := 2) X8 d5_96 rfl (by decide) <| ob 99 (v := 91) X8 d5_97 rfl (by decide) ?_
  have f12 := f9.wr W8
  refine sC 100 2 91 X8 V10 (by decide) (lb rfl) (by decide) d5_99 rfl (by omega) (Or.inr (by omega)) (sx X8 f12 nc0) ?_
  rintro _ _ X11 ⟨_, _, W11⟩ C11 V11
  have := W11.size
  have V13 := V11.as [.int pi1, .int 32, .int 91, i0, i0, i0, i0, i0] rfl
  refine oD 101 X11 d5_100 rfl rfl <| oc 102 (v := 3) X11 d5_101 rfl (by decide) <| oI 103 X11 d5_102 rfl rfl ?_
  have f15 := f12.wr W11
  refine sC 104 3 pi2 X11 V13 (by decide) (lb rfl) (own_narC rg_pi2) d5_103 rfl (by omega) (Or.inr (by omega)) (sx X11 f15 nc0) ?_
  rintro _ _ X14 ⟨_, _, W14⟩ C14 V14
  have := W14.size
  have V16 := V14.as [.int pi1, .int 32, .int 91, .int pi2, i0, i0, i0, i0] rfl
  refine oD 105 X14 d5_104 rfl rfl <| oc 106 (v := 4) X14 d5_105 rfl (by decide) <| ob 108 (v := 44) X14 d5_106 rfl (by decide) ?_
  have f18 := f15.wr W14
  refine sC 109 4 44 X14 V16 (by decide) (lb rfl) (by decide) d5_108 rfl (by omega) (Or.inr (by omega)) (sx X14 f18 nc0) ?_
  rintro _ _ X17 ⟨_, _, W17⟩ C17 V17
  have := W17.size
  have V19 := V17.as [.int pi1, .int 32, .int 91, .int pi2, .int 44, i0, i0, i0] rfl
  refine oD 110 X17 d5_109 rfl rfl <| oc 111 (v := 5) X17 d5_110 rfl (by decide) <| ob 113 (v := 32) X17 d5_111 rfl (by decide) ?_
  have f21 := f18.wr W17
  refine sC 114 5 32 X17 V19 (by decide) (lb rfl) (by decide) d5_113 rfl (by omega) (Or.inr (by omega)) (sx X17 f21 nc0) ?_
  rintro _ _ X20 ⟨_, _, W20⟩ C20 V20
  have := W20.size
  have V22 := V20.as [.int pi1, .int 32, .int 91, .int pi2, .int 44, .int 32, i0, i0] rfl
  refine oD 115 X20 d5_114 rfl rfl <| ob 117 (v := 6) X20 d5_115 rfl (by decide) <| oI 118 X20 d5_117 rfl rfl ?_
  have f24 := f21.wr W20
  refine sC 119 6 pi3 X20 V22 (by decide) (lb rfl) (own_narC rg_pi3) d5_118 rfl (by omega) (Or.inr (by omega)) (sx X20 f24 nc0) ?_
  rintro _ _ X23 ⟨_, _, W23⟩ C23 V23
  have := W23.size
  have V25 := V23.as [.int pi1, .int 32, .int 91, .int pi2, .int 44, .int 32, .int pi3, i0] rfl
  refine oD 120 X23 d5_119 rfl rfl <| ob 122 (v := 7) X23 d5_120 rfl (by decide) <| ob 124 (v := 93) X23 d5_122 rfl (by decide) ?_
  have f27 := f24.wr W23
  refine sC 125 7 93 X23 V25 (by decide) (lb rfl) (by decide) d5_124 rfl (by omega) (Or.inr (by omega)) (sx X23 f27 nc0) ?_
  rintro _ _ X26 ⟨_, _, W26⟩ C26 V26
  have := W26.size
  have V28 := V26.as [.int pi1, .int 32, .int 91, .int pi2, .int 44, .int 32, .int pi3, .int 93] rfl
  have f29 := ((((((((A1.ext E4).wr W6).wr W8).wr W11).wr W14).wr W17).wr W20).wr W23).wr W26
  have f30 := ((((((((f3.ext E4).oth W6 (by omega)).oth W8 (by omega)).oth W11 (by omega)).oth W14 (by omega)).oth W17 (by omega)).oth W20 (by omega)).oth W23 (by omega)).oth W26 (by omega)
  have f31 := ((((((((f2.ext E4).oth W6 (by omega)).oth W8 (by omega)).oth W11 (by omega)).oth W14 (by omega)).oth W17 (by omega)).oth W20 (by omega)).oth W23 (by omega)).oth W26 (by omega)
  have f32 := C26.safe (own_lt (by omega)) (C23.safe (own_lt (by omega)) (C20.safe (own_lt (by omega)) (C17.safe (own_lt (by omega)) (C14.safe (own_lt (by omega)) (C11.safe (own_lt (by omega)) (C8.safe (own_lt (by omega)) (C6.safe (own_lt (by omega)) (C4.safe (own_lt (by omega)) S1))))))))
  refine mP 128 1 X26 (rm_au117 G f29 f30 f31 V28 rg_pi1 rg_pi2 rg_pi3 (by omega)) (u8 G) (sS (by omega) f32 all0) d5_125 rfl rfl rfl lr (by decide) (aR (by omega) all0) ?_
  rintro _ _ _ _ X33 ⟨xa1_34, xk1_35, rfl, q36, q37, q38, q39, q40, q41, _⟩ _ _ C33
  refine sk [.ref b1] rfl ?_
  have f43 := C33.safe (own_lt (by omega)) f32
  exact oR X33 d5_128 rfl rfl rfl (by decide) (by decide) (fun _ CC => ⟨b1, xa1_34, xk1_35, rfl, q36, q37, q38, (CC.safe (own_lt (by omega)) f43), q39, q40, (CC.safe (own_lt (by omega)) q41), by omega⟩)
def Q63 (Z : State) (b1 b2 : Addr) (b3 : ClassId) (b4 b5 : Addr) (h0 : Heap) (v : Option Value) (h : Heap) (vm : Vm) : Prop := v = none ∧ ex2 Z h b1 ∧ fd3 Z h b1 (.ref b2) ∧ fd2 Z h b1 (.int 2) ∧ fd4 Z h b1 (.int 2) ∧ av2 Z h b2 b3 10 [.ref b4, .ref b5, .null, .null, .null, .null, .null, .null, .null, .null] ∧ ex3 Z h b2 ∧ Ovr Z b3 "java/lang/Object"
theorem rm_au119 (G : GL l Z a0 zc dce kdce eed keed mroa mral mrul mrur) (F0 : ex2 Z h0 pa1) (F1 : fd3 Z h0 pa1 (.ref pa3)) (F2 : fd2 Z h0 pa1 (.int 2)) (F3 : fd4 Z h0 pa1 (.int 1)) (F4 : ex1 Z h0 pa2) (F5 : av2 Z h0 pa3 pk1 10 [.ref pa5, .null, .null, .null, .null, .null, .null, .null, .null, .null]) (F6 : ex3 Z h0 pa3) (F7 : Ovr Z pk1 "java/lang/Object") (ne : NE pa1 pa2 ∧ NE pa1 pa3 ∧ NE pa2 pa3 ∧ n0 ≤ pa1 ∧ n0 ≤ pa3) : M55 l Z 0 0 0 0 #[.ref pa1, .ref pa2, .ref pa3, .int 1] h0 n0 [pa1, pa3] [] (Q63 Z pa1 pa3 pk1 pa5 pa2 h0) := by
  refine mi B55 ef21 (hEW G) fun s X0 hsf0 n0le => ?_
  have := F0.l
  have := F4.l
  have := F5.l
  refine oI 1 X0 d55_0 rfl rfl <| oA 2 X0 d55_1 rfl rfl <| oL 3 X0 F5 d55_2 rfl <| oY 11 X0 d55_3 (by decide) (feq (by decide)).2 <| oA 12 X0 d55_11 rfl rfl <| oI 13 X0 d55_12 rfl rfl <| oA 14 X0 d55_13 rfl rfl <| o_stR 15 (i := 1) X0 F5 rfl (own_sto F5 F7 F4 (w361 G)) rfl ⟨by decide, by decide⟩ (by decide) (Nat.le_of_ble_eq_true rfl) d55_14 rfl (by omega) (Or.inl (by simp)) (sx X0 F6 nc3) ?_
  rintro _ _ X1 ⟨_, _, W1⟩ _ V1
  have := W1.size
  have V2 := V1.as [.ref pa5, .ref pa2, .null, .null, .null, .null, .null, .null, .null, .null] rfl
  refine oA 16 X1 d55_15 rfl rfl <| oI 17 X1 d55_16 rfl rfl <| oc 18 (v := 1) X1 d55_17 rfl (by decide) <| o_iadd 19 (v := 2) X1 d55_18 rfl (by decide) ?_
  have f3 := F3.oth W1 (by omega)
  have f4 := F0.wr W1
  refine oP 22 (v' := (.int 2)) X1 (w94 G) Via.refl f3 f4 (Or.inl (w95 G)) (w49 G) fd_2 rfl rfl d55_19 rfl (by omega) (Or.inl (by simp)) (sx X1 f4 nc1) ?_
  intro _ _ X5 W5 _
  have := W5.size
  have f6 := f3.same W5
  have f7 := f4.wr W5
  have f8 := (F1.oth W1 (by omega)).other W5 (Or.inr (sn6 G))
  have f9 := (F2.oth W1 (by omega)).other W5 (Or.inr (sn7 G))
  have f10 := V2.oth W5 (by omega)
  have f11 := (F6.wr W1).wr W5
  exact oz X5 d55_22 rfl (by decide) (by decide) (fun _ CC => ⟨rfl, f7, f8, f9, f6, f10, f11, F7⟩)
def Q64 (Z : State) (b1 b2 : Addr) (b3 : ClassId) (b4 b5 : Addr) (h0 : Heap) (v : Option Value) (h : Heap) (vm : Vm) : Prop := v = some (.int 1) ∧ ex2 Z h b1 ∧ fd3 Z h b1 (.ref b2) ∧ fd2 Z h b1 (.int 2) ∧ fd4 Z h b1 (.int 2) ∧ av2 Z h b2 b3 10 [.ref b4, .ref b5, .null, .null, .null, .null, .null, .null, .null, .null] ∧ ex3 Z h b2 ∧ Ovr Z b3 "java/lang/Object"
theorem rm_au120 (G : GL l Z a0 zc dce kdce eed keed mroa mral mrul mrur) (F0 : ex2 Z h0 pa1) (F1 : fd3 Z h0 pa1 (.ref pa3)) (F2 : fd2 Z h0 pa1 (.int 1)) (F3 : fd4 Z h0 pa1 (.int 1)) (F4 : ex1 Z h0 pa2) (F5 : av2 Z h0 pa3 pk1 10 [.ref pa5, .null, .null, .null, .null, .null, .null, .null, .null, .null]) (F6 : ex3 Z h0 pa3) (F7 : Ovr Z pk1 "java/lang/Object") (ne : NE pa1 pa2 ∧ NE pa1 pa3 ∧ NE pa2 pa3 ∧ n0 ≤ pa1 ∧ n0 ≤ pa3) : M54 l Z 1 0 0 15 #[.ref pa1, .ref pa2] h0 n0 [pa1, pa3] [] (Q64 Z pa1 pa3 pk1 pa5 pa2 h0) := by
  refine mi B54 ef4 (hEW G) fun s X0 hsf0 n0le => ?_
  have := F0.l
  have := F4.l
  have := F5.l
  refine oA 1 X0 d54_0 rfl rfl <| oD 2 X0 d54_1 rfl rfl <| oF 5 X0 (w341 G) (Via.of (w272 G)) F2 d54_2 rfl ?_
  intro _ X2
  refine oc 6 (v := 1) X2 d54_5 rfl (by decide) <| o_iadd 7 (v := 2) X2 d54_6 rfl (by decide) <| oP 10 (v' := (.int 2)) X2 (w341 G) (Via.of (w272 G)) F2 F0 (Or.inl (w68 G)) (w49 G) fd_2 rfl rfl d54_7 rfl (by omega) (Or.inl (by simp)) (sx X2 F0 nc1) ?_
  intro _ _ X3 W3 _
  have := W3.size
  have f4 := F2.same W3
  refine oA 11 X3 d54_10 rfl rfl <| oA 12 X3 d54_11 rfl rfl <| oA 13 X3 d54_12 rfl rfl ?_
  have f5 := F1.other W3 (Or.inr (sn2 G))
  refine oF 16 X3 (w70 G) Via.refl f5 d54_13 rfl ?_
  intro _ X7
  refine oA 17 X7 d54_16 rfl rfl ?_
  have f8 := F3.other W3 (Or.inr (sn3 G))
  refine oF 20 X7 (w94 G) Via.refl f8 d54_17 rfl ?_
  intro _ X10
  have f11 := F0.wr W3
  have f12 := F4.wr W3
  have f13 := F5.oth W3 (by omega)
  have f14 := F6.wr W3
  refine mV 23 0 X10 f11 (rm_au119 G f11 f5 f4 f8 f12 f13 f14 F7 (by omega)) (u58 G) all0 d54_20 rfl rfl rfl lr (by decide) (aI (by omega) (by simp) (aI (by omega) (by simp) all0)) ?_
  rintro _ _ _ _ X15 ⟨rfl, q16, q17, q18, q19, q20, q21, q22⟩ _ _ _
  refine sk [] rfl <| oc 24 (v := 1) X15 d54_23 rfl (by decide) ?_
  exact o_nret (y := (1 : Int32)) (t := .boolean) X15 d54_24 rfl (by decide) (by simp) (by decide) (by decide) (fun _ CC => ⟨rfl, q16, q17, q18, q19, q20, q21, q22⟩)
def Q65 (Z : State) (b1 b2 : Addr) (h0 : Heap) (v : Option Value) (h : Heap) (vm : Vm) : Prop := ∃ (xa1 : Addr) (xk1 : ClassId), v = some (.ref xa1) ∧ av2 Z h xa1 xk1 2 [.ref b1, .ref b2] ∧ ex3 Z h xa1 ∧ Ovr Z xk1 "java/lang/Object" ∧ h0.size ≤ xa1 ∧ h.size > xa1
theorem rm_au121 (G : GL l Z a0 zc dce kdce eed keed mroa mral mrul mrur) (F0 : av2 Z h0 pa1 pk1 10 [.ref pa2, .ref pa3, .null, .null, .null, .null, .null, .null, .null, .null]) (F1 : ex1 Z h0 pa2) (F2 : ex1 Z h0 pa3) : M18 l Z 1 1 2 40 #[.ref pa1, .int 2, .ref mroa] h0 n0 [] [] (Q65 Z pa2 pa3 h0) := by
  refine mi B18 ef12 (hEW G) fun s X0 hsf0 n0le => ?_
  have := F0.l
  have := F1.l
  have l3 := F2.l
  refine oA 1 X0 d18_0 rfl rfl <| o_ldcK 3 X0 (w109 G) (sg5 G) d18_1 rfl ?_
  intro _ X2
  refine o_acmp 6 (same := true) X2 d18_3 rfl rfl (decide_eq_true rfl) (by decide) (by decide) <| oI 7 X2 d18_6 rfl rfl <| o_newR 10 (cap := 2) X2 (w110 G) (w111 G) d18_7 rfl (by decide) (by decide) (by decide) (by decide) (by decide) (ad := "[Ljava/lang/Object;") (by decide +kernel) ?_
  intro _ h3 b3 k3 X3 _ l3 E3 V3 O3 A3 _ _
  have V4 : av2 Z h3 b3 k3 2 [.null, .null] := V3.pad (pad_rep [] .null 2)
  refine og 24 X3 d18_10 (by decide) <| oV 25 (l' := #[rr pa1, ii 2, rr mroa, rr b3]) X3 d18_24 rfl rfl rfl <| oA 26 X3 d18_25 rfl rfl <| oc 27 (v := 0) X3 d18_26 rfl (by decide) <| oA 28 X3 d18_27 rfl rfl <| oc 29 (v := 0) X3 d18_28 rfl (by decide) <| oA 30 X3 d18_29 rfl rfl ?_
  have f5 := F0.ext E3
  refine oL 31 X3 f5 d18_30 rfl <| oI 32 X3 d18_31 rfl rfl <| mS 35 4 X3 (rm_au55 G (by decide)) (u13 G) all0 d18_32 rfl rfl rfl lr (by decide) all0 ?_
  rintro _ _ _ _ X6 rfl K6 _ _
  refine sk [.int 2, i0, .ref b3, i0, .ref pa1] rfl ?_
  have f7 := f5.k0 K6
  have f8 := V4.k0 K6
  have f9 := (F2.ext E3).keep K6
  have f10 := (F1.ext E3).keep K6
  have f11 := A3.keep K6
  refine o_cp 38 (us := [.ref pa2, .ref pa3]) (vr := [.ref pa2, .ref pa3]) (W := 0) X6 (w116 G) (w119 G) (w117 G) (w118 G) f7 f8 (Or.inr ⟨rfl, rfl, ⟨(own_sto f8 O3 f10 (w361 G)), ⟨(own_sto f8 O3 f9 (w361 G)), trivial⟩⟩⟩) (by decide) (by decide) (by decide) (by decide) (by decide) rfl (Nat.le_of_ble_eq_true rfl) rfl d18_35 rfl rfl (by decide) (Nat.le_of_eq rfl) (by decide) (by omega) (Or.inr (by omega)) (sx X6 f11 nc3) ?_
  intro _ _ X12 K12 _ V12
  have := K12.1
  refine oA 39 X12 d18_38 rfl rfl ?_
  have f13 := f11.keep K12
  exact oR X12 d18_39 rfl rfl rfl (by decide) (by decide) (fun _ CC => ⟨b3, k3, rfl, V12, f13, O3, by omega⟩)
theorem rm_au122 (G : GL l Z a0 zc dce kdce eed keed mroa mral mrul mrur) (F0 : av2 Z h0 pa1 pk1 10 [.ref pa2, .ref pa3, .null, .null, .null, .null, .null, .null, .null, .null]) (F1 : ex3 Z h0 pa1) (F2 : ex1 Z h0 pa2) (F3 : ex1 Z h0 pa3) : M17 l Z 2 1 2 55 #[.ref pa1, .int 2] h0 n0 [] [] (Q65 Z pa2 pa3 h0) := by
  refine mi B17 ef8 (hEW G) fun s X0 hsf0 n0le => ?_
  have := F0.l
  have := F2.l
  have := F3.l
  refine oA 1 X0 d17_0 rfl rfl <| oI 2 X0 d17_1 rfl rfl <| oA 3 X0 d17_2 rfl rfl <| o_gcV 6 (W := 2) X0 (w100 G) (w101 G) (nf_sel (w103 G)) (w103 G) (w102 G) (w104 G) F1 (sg5 G) rfl (by decide) (Nat.le_of_eq rfl) (by decide) d17_3 rfl ?_
  intro _ X2
  refine mS 9 0 X2 (rm_au121 G F0 F2 F3) (u14 G) all0 d17_6 rfl rfl rfl lr (by decide) all0 ?_
  rintro _ _ _ _ X3 ⟨xa1_4, xk1_5, rfl, q6, q7, q8, _⟩ _ _ _
  refine sk [.ref xa1_4] rfl ?_
  exact oR X3 d17_9 rfl rfl rfl (by decide) (by decide) (fun _ CC => ⟨xa1_4, xk1_5, rfl, q6, q7, q8, by omega⟩)
theorem rm_au123 (G : GL l Z a0 zc dce kdce eed keed mroa mral mrul mrur) (F0 : fd3 Z h0 pa1 (.ref pa2)) (F1 : fd4 Z h0 pa1 (.int 2)) (F2 : av2 Z h0 pa2 pk1 10 [.ref pa3, .ref pa4, .null, .null, .null, .null, .null, .null, .null, .null]) (F3 : ex3 Z h0 pa2) (F4 : ex1 Z h0 pa3) (F5 : ex1 Z h0 pa4) : M16 l Z 3 1 2 68 #[.ref pa1] h0 n0 [] [] (Q65 Z pa3 pa4 h0) := by
  refine mi B16 ef9 (hEW G) fun s X0 hsf0 n0le => ?_
  have := F0.l
  have := F2.l
  have := F4.l
  have := F5.l
  refine oA 1 X0 d16_0 rfl rfl <| oF 4 X0 (w70 G) Via.refl F0 d16_1 rfl ?_
  intro _ X2
  refine oA 5 X2 d16_4 rfl rfl <| oF 8 X2 (w94 G) Via.refl F1 d16_5 rfl ?_
  intro _ X4
  refine mS 11 0 X4 (rm_au122 G F2 F3 F4 F5) (u15 G) all0 d16_8 rfl rfl rfl lr (by decide) all0 ?_
  rintro _ _ _ _ X5 ⟨xa1_6, xk1_7, rfl, q8, q9, q10, _⟩ _ _ _
  refine sk [.ref xa1_6] rfl ?_
  exact oR X5 d16_11 rfl rfl rfl (by decide) (by decide) (fun _ CC => ⟨xa1_6, xk1_7, rfl, q8, q9, q10, by omega⟩)
def Q66 (Z : State) (b1 b2 b3 : Addr) (h0 : Heap) (v : Option Value) (h : Heap) (vm : Vm) : Prop := ∃ (xa1 : Addr) (xk1 : ClassId), v = none ∧ ex2 Z h b1 ∧ fd3 Z h b1 (.ref xa1) ∧ fd2 Z h b1 (.int 0) ∧ fd4 Z h b1 (.int 2) ∧ av2 Z h xa1 xk1 2 [.ref b2, .ref b3] ∧ ex3 Z h xa1 ∧ Ovr Z xk1 "java/lang/Object" ∧ h0.size ≤ xa1 ∧ h.size > xa1
theorem rm_au124 (G : GL l Z a0 zc dce kdce eed keed mroa mral mrul mrur) (F0 : ex2 Z h0 pa1) (F1 : fd3 Z h0 pa1 .null) (F2 : fd2 Z h0 pa1 (.int 0)) (F3 : fd4 Z h0 pa1 (.int 0)) (F4 : ex2 Z h0 pa2) (F5 : fd3 Z h0 pa2 (.ref pa3)) (F6 : fd4 Z h0 pa2 (.int 2)) (F7 : av2 Z h0 pa3 pk1 10 [.ref pa4, .ref pa5, .null, .null, .null, .null, .null, .null, .null, .null]) (F8 : ex3 Z h0 pa3) (F9 : ex1 Z h0 pa4) (F10 : ex1 Z h0 pa5) (ne : NE pa1 pa2 ∧ NE pa1 pa3 ∧ NE pa1 pa4 ∧ NE pa1 pa5 ∧ n0 ≤ pa1) : M15 l Z 4 1 2 80 #[.ref pa1, .ref pa2] h0 n0 [pa1] [] (Q66 Z pa1 pa4 pa5 h0) := by
  refine mi B15 ef11 (hEW G) fun s X0 hsf0 n0le => ?_
  have := F0.l
  have := F4.l
  have := F7.l
  have := F9.l
  have := F10.l
  refine oA 1 X0 d15_0 rfl rfl <| mP 4 0 X0 (rm_au11 G F0 F1 F2 F3 (by omega)) (u11 G) all0 d15_1 rfl rfl rfl lr (by decide) (aI (by omega) (by simp) all0) ?_
  rintro _ _ _ _ X1 ⟨rfl, q2, q3, q4, q5⟩ K1 _ _
  refine sk [] rfl <| oA 5 X1 d15_4 rfl rfl ?_
  have f6 := F5.k1 K1 (by omega)
  have f7 := F6.k1 K1 (by omega)
  have f8 := F7.k1 K1 (by omega)
  have f9 := F8.keep K1
  have f10 := F9.keep K1
  have f11 := F10.keep K1
  have f12 := F4.keep K1
  refine mF 10 0 X1 f12 (rm_au123 G f6 f7 f8 f9 f10 f11) (u16 G) all0 d15_5 rfl rfl rfl lr (by decide) all0 ?_
  rintro _ _ _ _ X13 ⟨xa1_14, xk1_15, rfl, q16, q17, q18, _⟩ K13 _ _
  refine sk [.ref xa1_14] rfl <| oV 11 (l' := #[rr pa1, rr pa2, rr xa1_14]) X13 d15_10 rfl rfl rfl <| oA 12 X13 d15_11 rfl rfl <| oA 13 X13 d15_12 rfl rfl <| oL 14 X13 q16 d15_13 rfl <| o_dupX1 15 X13 d15_14 rfl rfl rfl ?_
  have f20 := q5.k0 K13
  have f21 := q2.keep K13
  refine oP 18 (v' := (.int 2)) X13 (w94 G) Via.refl f20 f21 (Or.inl (w95 G)) (w49 G) fd_2 rfl rfl d15_15 rfl (by omega) (Or.inl (by simp)) (sx X13 f21 nc1) ?_
  intro _ _ X22 W22 _
  have := W22.size
  have f23 := f20.same W22
  refine on 21 X22 d15_18 rfl ((if0 _ _).trans (feq (by decide)).1) <| oA 22 X22 d15_21 rfl rfl ?_
  have f24 := (f12.keep K13).wr W22
  refine o_gcI 27 (W := 0) X22 (w362 G) (w101 G) (w363 G) (w364 G) (w102 G) (w128 G) (w129 G) (w92 G) (w104 G) (by decide) (by decide) rfl rfl f24 (sg4 G) rfl (by decide) (Nat.le_of_eq rfl) (by decide) d15_22 rfl ?_
  intro _ X26
  refine o_ldcK 29 X26 (w365 G) (sg4 G) d15_27 rfl ?_
  intro _ X28
  refine o_acmp 32 (same := true) X28 d15_29 rfl rfl (decide_eq_true rfl) (by decide) (by decide) <| oA 33 X28 d15_32 rfl rfl <| oA 34 X28 d15_33 rfl rfl ?_
  have f29 := (q3.k0 K13).other W22 (Or.inr (sn6 G))
  have f30 := f21.wr W22
  refine oP 37 (v' := (.ref xa1_14)) X28 (w70 G) Via.refl f29 f30 (Or.inl (w71 G)) (w49 G) fd_3 rfl rfl d15_34 rfl (by omega) (Or.inl (by simp)) (sx X28 f30 nc1) ?_
  intro _ _ X31 W31 _
  have := W31.size
  have f32 := f29.same W31
  refine og 64 X31 d15_37 (by decide) ?_
  have f33 := f30.wr W31
  have f34 := ((q4.k0 K13).other W22 (Or.inr (sn7 G))).other W31 (Or.inr (sn4 G))
  have f35 := f23.other W31 (Or.inr (sn5 G))
  have f36 := (q16.oth W22 (by omega)).oth W31 (by omega)
  have f37 := (q17.wr W22).wr W31
  exact oz X31 d15_64 rfl (by decide) (by decide) (fun _ CC => ⟨xa1_14, xk1_15, rfl, f33, f32, f34, f35, f36, f37, q18, by omega⟩)
def Q67 (Z : State) (b1 b2 b3 b4 : Addr) (h0 : Heap) (v : Option Value) (h : Heap) (vm : Vm) : Prop := ∃ (xa1 : Addr) (xa2 : Addr) (xa3 : Addr) (xk1 : ClassId), v = none ∧ ex5 Z h b1 ∧ fd6 Z h b1 (.ref xa1) ∧ fd5 Z h b1 (.ref b2) ∧ ex4 Z h xa1 ∧ fd7 Z h xa1 (.ref xa2) ∧ fd8 Z h xa1 (.ref xa2) ∧ ex2 Z h xa2 ∧ fd3 Z h xa2 (.ref xa3) ∧ fd2 Z h xa2 (.int 0) ∧ fd4 Z h xa2 (.int 2) ∧ av2 Z h xa3 xk1 2 [.ref b3, .ref b4] ∧ ex3 Z h xa3 ∧ Ovr Z xk1 "java/lang/Object" ∧ h0.size ≤ xa1 ∧ h.size > xa1 ∧ h0.size ≤ xa2 ∧ h.size > xa2 ∧ NE xa1 xa2 ∧ h0.size ≤ xa3 ∧ h.size > xa3 ∧ NE xa1 xa3 ∧ NE xa2 xa3
theorem rm_au125 (G : GL l Z a0 zc dce kdce eed keed mroa mral mrul mrur) (F0 : ex5 Z h0 pa1) (F1 : fd6 Z h0 pa1 .null) (F2 : fd5 Z h0 pa1 .null) (F3 : ex2 Z h0 pa3) (F4 : fd3 Z h0 pa3 (.ref pa5)) (F5 : fd4 Z h0 pa3 (.int 2)) (F6 : av2 Z h0 pa5 pk2 10 [.ref pa6, .ref pa7, .null, .null, .null, .null, .null, .null, .null, .null]) (F7 : ex3 Z h0 pa5) (F8 : ex1 Z h0 pa6) (F9 : ex1 Z h0 pa7) (ne : NE pa1 pa3 ∧ NE pa1 pa5 ∧ NE pa1 pa6 ∧ NE pa1 pa7 ∧ n0 ≤ pa1) : M14 l Z 5 3 7 96 #[.ref pa1, .ref pa2, .ref pa3] h0 n0 [pa1] [] (Q67 Z pa1 pa2 pa6 pa7 h0) := by
  refine mi B14 ef10 (hEW G) fun s X0 hsf0 n0le => ?_
  have := F0.l
  have := F3.l
  have := F6.l
  have := F8.l
  have l5 := F9.l
  refine oA 1 X0 d14_0 rfl rfl <| o_initO 4 (W := 0) X0 (w78 G) (w20 G) (w21 G) rfl (by decide) (Nat.le_of_eq rfl) (by decide) d14_1 rfl ?_
  intro _ X2
  refine oA 5 X2 d14_4 rfl rfl <| oA 6 X2 d14_5 rfl rfl <| oP 9 (v' := (.ref pa2)) X2 (w79 G) Via.refl F2 F0 (Or.inr ⟨(w80 G), rfl, rfl⟩) (w73 G) fd_4 rfl rfl d14_6 rfl (by omega) (Or.inl (by simp)) (sx X2 F0 nc2) ?_
  intro _ _ X3 W3 _
  have := W3.size
  have f4 := F2.same W3
  refine oA 10 X3 d14_9 rfl rfl <| o_new 13 X3 (w81 G) (w49 G) (w50 G) d14_10 rfl (by decide) (by decide) ?_
  intro _ h5 b5 X5 _ l5 E5 A5 D5 _ _ _
  have f6 : fd2 Z h5 b5 (.int 0) := D5 (Or.inl (w68 G)) fd_2
  have f7 : fd3 Z h5 b5 .null := D5 (Or.inl (w71 G)) fd_3
  have f8 : fd4 Z h5 b5 (.int 0) := D5 (Or.inl (w95 G)) fd_2
  refine oD 14 X5 d14_13 rfl rfl <| oA 15 X5 d14_14 rfl rfl ?_
  have f9 := (F3.wr W3).ext E5
  have f10 := (F4.oth W3 (by omega)).ext E5
  have f11 := (F5.oth W3 (by omega)).ext E5
  have f12 := (F6.oth W3 (by omega)).ext E5
  have f13 := (F7.wr W3).ext E5
  have f14 := (F8.wr W3).ext E5
  have f15 := (F9.wr W3).ext E5
  refine mP 18 2 X5 (rm_au124 G A5 f7 f6 f8 f9 f10 f11 f12 f13 f14 f15 (by omega)) (u17 G) all0 d14_15 rfl rfl rfl lr (by decide) (aR (by omega) all0) ?_
  rintro _ _ _ _ X16 ⟨xa1_17, xk1_18, rfl, q19, q20, q21, q22, q23, q24, q25, _⟩ K16 _ _
  refine sk [.ref b5, .ref pa1] rfl <| mS 21 1 X16 (rm_au21 G q19) (u21 G) all0 d14_18 rfl rfl rfl lr (by decide) all0 ?_
  rintro _ _ _ _ X27 ⟨xa1_28, rfl, q29, q30, q31, _⟩ K27 _ _
  refine sk [.ref xa1_28, .ref pa1] rfl ?_
  have f33 := (((F1.other W3 (Or.inr (sn10 G))).ext E5).k1 K16 (by omega)).k0 K27
  have f34 := (((F0.wr W3).ext E5).keep K16).keep K27
  refine oP 24 (v' := (.ref xa1_28)) X27 (w161 G) Via.refl f33 f34 (Or.inr ⟨(w162 G), rfl, rfl⟩) (w73 G) fd_5 rfl rfl d14_21 rfl (by omega) (Or.inl (by simp)) (sx X27 f34 nc2) ?_
  intro _ _ X35 W35 _
  have := W35.size
  have f36 := f33.same W35
  have f37 := f34.wr W35
  have f38 := (((f4.ext E5).k1 K16 (by omega)).k0 K27).other W35 (Or.inr (sn11 G))
  have f39 := q29.wr W35
  have f40 := q30.oth W35 (by omega)
  have f41 := q31.oth W35 (by omega)
  have f42 := (q19.keep K27).wr W35
  have f43 := (q20.k0 K27).oth W35 (by omega)
  have f44 := (q21.k0 K27).oth W35 (by omega)
  have f45 := (q22.k0 K27).oth W35 (by omega)
  have f46 := (q23.k0 K27).oth W35 (by omega)
  have f47 := (q24.keep K27).wr W35
  exact oz X35 d14_24 rfl (by decide) (by decide) (fun _ CC => ⟨xa1_28, b5, xa1_17, xk1_18, rfl, f37, f36, f38, f39, f40, f41, f42, f43, f44, f45, f46, f47, q25, by omega⟩)
theorem rm_au126 (G : GL l Z a0 zc dce kdce eed keed mroa mral mrul mrur) (F0 : ex7 Z h0 pa1) (F1 : fd15 Z h0 pa1 (.int 0)) (F2 : fd14 Z h0 pa1 (.int pi1)) (F3 : fd13 Z h0 pa1 (.int (-1))) (F4 : fd12 Z h0 pa1 (.ref pa2)) (F5 : fd3 Z h0 pa2 (.ref pa3)) (F6 : fd2 Z h0 pa2 (.int pi1)) (F7 : fd4 Z h0 pa2 (.int pi2)) (F8 : av2 Z h0 pa3 pk1 2 [.ref pa4, .ref pa5]) (pc_0 : (0 : Int32) < pi2) (ne : NE pa1 pa2 ∧ NE pa1 pa3 ∧ n0 ≤ pa1) : M61 l Z 1 0 0 12 #[.ref pa1] h0 n0 [pa1] [] (Q46 Z pa4 pa1 pi1 pa2 h0) := by
  refine mi B61 ef23 (hEW G) fun s X0 hsf0 n0le => ?_
  have := F0.l
  have := F5.l
  have := F8.l
  refine oA 1 X0 d61_0 rfl rfl <| mV 4 0 X0 F0 (rm_au84 G F2 F4 F6) (u65 G) all0 d61_1 rfl rfl rfl lr (by decide) all0 ?_
  rintro _ _ _ _ X1 rfl K1 _ _
  refine sk [] rfl <| oA 5 X1 d61_4 rfl rfl ?_
  have f2 := F1.k0 K1
  refine oF 8 X1 (w284 G) Via.refl f2 d61_5 rfl ?_
  intro _ X4
  refine oT 9 (l' := #[rr pa1, ii 0, uu]) X4 d61_8 rfl rfl <| oI 10 X4 d61_9 rfl rfl <| oA 11 X4 d61_10 rfl rfl ?_
  have f5 := F4.k0 K1
  refine oF 14 X4 (w266 G) Via.refl f5 d61_11 rfl ?_
  intro _ X7
  have f8 := F7.k0 K1
  refine o_getFN 17 X7 (w286 G) Via.refl f8 d61_14 rfl ?_
  intro _ X10
  refine oY 28 X10 d61_17 (by decide) (tlt pc_0).1 <| oA 29 X10 d61_28 rfl rfl <| oF 32 X10 (w266 G) Via.refl f5 d61_29 rfl ?_
  intro _ X12
  have f13 := F5.k0 K1
  refine oF 35 X12 (w393 G) Via.refl f13 d61_32 rfl ?_
  intro _ X15
  refine oV 36 (l' := #[rr pa1, ii 0, rr pa3]) X15 d61_35 rfl rfl rfl <| oI 37 X15 d61_36 rfl rfl <| oA 38 X15 d61_37 rfl rfl ?_
  have f16 := F8.k0 K1
  refine oL 39 X15 f16 d61_38 rfl <| oY 50 X15 d61_39 (by decide) (tlt (by decide)).1 <| oA 51 X15 d61_50 rfl rfl <| oI 52 X15 d61_51 rfl rfl <| oc 53 (v := 1) X15 d61_52 rfl (by decide) <| o_iadd 54 (v := 1) X15 d61_53 rfl (by decide) ?_
  have f17 := F0.keep K1
  refine oP 57 (v' := (.int 1)) X15 (w284 G) Via.refl f2 f17 (Or.inl (w285 G)) (w260 G) fd_2 rfl rfl d61_54 rfl (by omega) (Or.inl (by simp)) (sx X15 f17 nc6) ?_
  intro _ _ X18 W18 _
  have := W18.size
  have f19 := f2.same W18
  refine oA 58 X18 d61_57 rfl rfl <| oA 59 X18 d61_58 rfl rfl <| oI 60 X18 d61_59 rfl rfl <| o_dupX1 61 X18 d61_60 rfl rfl rfl ?_
  have f20 := (F3.k0 K1).other W18 (Or.inr (sn27 G))
  have f21 := f17.wr W18
  refine oP 64 (v' := (.int 0)) X18 (w269 G) Via.refl f20 f21 (Or.inl (w270 G)) (w260 G) fd_2 rfl rfl d61_61 rfl (by omega) (Or.inl (by simp)) (sx X18 f21 nc6) ?_
  intro _ _ X22 W22 _
  have := W22.size
  have f23 := f20.same W22
  have f24 := (f16.oth W18 (by omega)).oth W22 (by omega)
  refine o_aaload 65 (v := (.ref pa4)) X22 f24 rfl ⟨by decide, by decide⟩ rfl d61_64 rfl ?_
  have f25 := f21.wr W22
  have f26 := f19.other W22 (Or.inr (sn23 G))
  have f27 := ((F2.k0 K1).other W18 (Or.inr (sn28 G))).other W22 (Or.inr (sn21 G))
  have f28 := (f5.other W18 (Or.inr (sn29 G))).other W22 (Or.inr (sn19 G))
  exact oR X22 d61_65 rfl rfl rfl (by decide) (by decide) (fun _ CC => ⟨rfl, f25, f26, f27, f23, f28⟩)
def Q68 (Z : State) (b1 b2 : Addr) (b3 : ClassId) (b4 : Int32) (h0 : Heap) (v : Option Value) (h : Heap) (vm : Vm) : Prop := v = some (.ref b1) ∧ ex6 Z h b1 ∧ fd10 Z h b1 (.int 0) ∧ fd11 Z h b1 (.int 3) ∧ fd9 Z h b1 (.ref b2) ∧ av0 Z h b2 b3 16 [.int 91, .int b4, .int 44, i0, i0, i0, i0, i0, i0, i0, i0, i0, i0, i0, i0, i0] ∧ ex0 Z h b2
theorem rm_au127 (G : GL l Z a0 zc dce kdce eed keed mroa mral mrul mrur) (F0 : ex6 Z h0 pa1) (F1 : fd10 Z h0 pa1 (.int 0)) (F2 : fd11 Z h0 pa1 (.int 2)) (F3 : fd9 Z h0 pa1 (.ref pa2)) (F4 : av0 Z h0 pa2 pk1 16 [.int 91, .int pi1, i0, i0, i0, i0, i0, i0, i0, i0, i0, i0, i0, i0, i0, i0]) (F5 : ex0 Z h0 pa2) (ne : NE pa1 pa2 ∧ n0 ≤ pa1 ∧ n0 ≤ pa2) : M60 l Z 1 0 0 14 #[.ref pa1, .int 44] h0 n0 [pa1, pa2] [pa2] (Q68 Z pa1 pa2 pk1 pi1 h0) := by
  refine mi B60 ef8 (hEW G) fun s X0 hsf0 n0le => ?_
  have := F0.l
  have := F4.l
  have sf_pa2 := hsf0 pa2 (by simp)
  refine oA 1 X0 d60_0 rfl rfl <| oA 2 X0 d60_1 rfl rfl <| oF 5 X0 (w206 G) Via.refl F2 d60_2 rfl ?_
  intro _ X2
  refine oc 6 (v := 1) X2 d60_5 rfl (by decide) <| o_iadd 7 (v := 3) X2 d60_6 rfl (by decide) <| mV 10 0 X2 F0 (rm_au27 G F1 F3 F4 (by decide)) (u27 G) all0 d60_7 rfl rfl rfl lr (by decide) all0 ?_
  rintro _ _ _ _ X3 rfl K3 _ C3
  refine sk [] rfl <| oA 11 X3 d60_10 rfl rfl ?_
  have f4 := F1.k0 K3
  have f5 := F0.keep K3
  refine mV 14 0 X3 f5 (rm_au53 G f4 (by decide)) (u61 G) all0 d60_11 rfl rfl rfl lr (by decide) all0 ?_
  rintro _ _ _ _ X6 rfl K6 _ C6
  refine sk [.int 1] rfl <| on 17 X6 d60_14 rfl ((if0 _ _).trans (feq (by decide)).1) <| oI 18 X6 d60_17 rfl rfl <| mS 21 0 X6 (rm_au0 G (by decide)) (u62 G) all0 d60_18 rfl rfl rfl lr (by decide) all0 ?_
  rintro _ _ _ _ X7 rfl K7 _ C7
  refine sk [.int 1] rfl <| on 24 X7 d60_21 rfl ((if0 _ _).trans (feq (by decide)).1) <| oA 25 X7 d60_24 rfl rfl ?_
  have f8 := ((F3.k0 K3).k0 K6).k0 K7
  refine oF 28 X7 (w182 G) Via.refl f8 d60_25 rfl ?_
  intro _ X10
  refine oA 29 X10 d60_28 rfl rfl <| oD 30 X10 d60_29 rfl rfl ?_
  have f11 := ((F2.k0 K3).k0 K6).k0 K7
  refine oF 33 X10 (w206 G) Via.refl f11 d60_30 rfl ?_
  intro _ X13
  refine o_dupX1 34 X13 d60_33 rfl rfl rfl <| oc 35 (v := 1) X13 d60_34 rfl (by decide) <| o_iadd 36 (v := 3) X13 d60_35 rfl (by decide) ?_
  have f14 := (f5.keep K6).keep K7
  refine oP 39 (v' := (.int 3)) X13 (w206 G) Via.refl f11 f14 (Or.inl (w207 G)) (w169 G) fd_2 rfl rfl d60_36 rfl (by omega) (Or.inl (by simp)) (sx X13 f14 nc5) ?_
  intro _ _ X15 W15 C15
  have := W15.size
  have f16 := f11.same W15
  refine oI 40 X15 d60_39 rfl rfl <| o_i2b 41 (v := 44) X15 d60_40 rfl (by decide) ?_
  have f17 := (((F4.k0 K3).k0 K6).k0 K7).oth W15 (by omega)
  have f19 := C15.safe (own_lt (by omega)) (C7.safe (own_lt (by omega)) (C6.safe (own_lt (by omega)) (C3.safe (own_lt (by omega)) sf_pa2)))
  refine sB 42 2 44 X15 f17 (by decide) (lb rfl) (by decide) d60_41 rfl (by omega) (Or.inl (by simp)) f19 ?_
  rintro _ _ X18 ⟨_, _, W18⟩ _ V18
  have := W18.size
  have V20 := V18.as [.int 91, .int pi1, .int 44, i0, i0, i0, i0, i0, i0, i0, i0, i0, i0, i0, i0, i0] rfl
  refine og 75 X18 d60_42 (by decide) <| oA 76 X18 d60_75 rfl rfl ?_
  have f21 := (f14.wr W15).wr W18
  have f22 := (((f4.k0 K6).k0 K7).other W15 (Or.inr (sn16 G))).oth W18 (by omega)
  have f23 := f16.oth W18 (by omega)
  have f24 := (f8.other W15 (Or.inr (sn17 G))).oth W18 (by omega)
  have f25 := ((((F5.keep K3).keep K6).keep K7).wr W15).wr W18
  exact oR X18 d60_76 rfl rfl rfl (by decide) (by decide) (fun _ CC => ⟨rfl, f21, f22, f23, f24, V20, f25⟩)
theorem rm_au128 (G : GL l Z a0 zc dce kdce eed keed mroa mral mrul mrur) (F0 : ex6 Z h0 pa1) (F1 : fd10 Z h0 pa1 (.int 0)) (F2 : fd11 Z h0 pa1 (.int 2)) (F3 : fd9 Z h0 pa1 (.ref pa2)) (F4 : av0 Z h0 pa2 pk1 16 [.int 91, .int pi1, i0, i0, i0, i0, i0, i0, i0, i0, i0, i0, i0, i0, i0, i0]) (F5 : ex0 Z h0 pa2) (ne : NE pa1 pa2 ∧ n0 ≤ pa1 ∧ n0 ≤ pa2) : M59 l Z 2 0 0 27 #[.ref pa1, .int 44] h0 n0 [pa1, pa2] [pa2] (Q68 Z pa1 pa2 pk1 pi1 h0) := by
  refine mi B59 ef8 (hEW G) fun s X0 hsf0 n0le => ?_
  have := F0.l
  have := F4.l
  have sf_pa2 := hsf0 pa2 (by simp)
  refine oA 1 X0 d59_0 rfl rfl <| oI 2 X0 d59_1 rfl rfl <| mU 5 0 X0 F0 (rm_au127 G F0 F1 F2 F3 F4 F5 (by omega)) (u63 G) (sS (by omega) sf_pa2 all0) d59_2 rfl rfl rfl lr (by decide) (aI (by omega) (by simp) (aI (by omega) (by simp) all0)) ?_
  rintro _ _ _ _ X1 ⟨rfl, q2, q3, q4, q5, q6, q7⟩ _ _ _
  refine sk [.ref pa1] rfl <| o_pop 6 X1 d59_5 rfl rfl <| oA 7 X1 d59_6 rfl rfl ?_
  exact oR X1 d59_7 rfl rfl rfl (by decide) (by decide) (fun _ CC => ⟨rfl, q2, q3, q4, q5, q6, q7⟩)
def Q69 (Z : State) (b1 b2 : Addr) (b3 : ClassId) (b4 : Int32) (h0 : Heap) (v : Option Value) (h : Heap) (vm : Vm) : Prop := v = some (.ref b1) ∧ ex6 Z h b1 ∧ fd10 Z h b1 (.int 0) ∧ fd11 Z h b1 (.int 4) ∧ fd9 Z h b1 (.ref b2) ∧ av0 Z h b2 b3 16 [.int 91, .int b4, .int 44, .int 32, i0, i0, i0, i0, i0, i0, i0, i0, i0, i0, i0, i0] ∧ ex0 Z h b2
theorem rm_au129 (G : GL l Z a0 zc dce kdce eed keed mroa mral mrul mrur) (F0 : ex6 Z h0 pa1) (F1 : fd10 Z h0 pa1 (.int 0)) (F2 : fd11 Z h0 pa1 (.int 3)) (F3 : fd9 Z h0 pa1 (.ref pa2)) (F4 : av0 Z h0 pa2 pk1 16 [.int 91, .int pi1, .int 44, i0, i0, i0, i0, i0, i0, i0, i0, i0, i0, i0, i0, i0]) (F5 : ex0 Z h0 pa2) (ne : NE pa1 pa2 ∧ n0 ≤ pa1 ∧ n0 ≤ pa2) : M60 l Z 1 0 0 14 #[.ref pa1, .int 32] h0 n0 [pa1, pa2] [pa2] (Q69 Z pa1 pa2 pk1 pi1 h0) := by
  refine mi B60 ef8 (hEW G) fun s X0 hsf0 n0le => ?_
  have := F0.l
  have := F4.l
  have sf_pa2 := hsf0 pa2 (by simp)
  refine oA 1 X0 d60_0 rfl rfl <| oA 2 X0 d60_1 rfl rfl <| oF 5 X0 (w206 G) Via.refl F2 d60_2 rfl ?_
  intro _ X2
  refine oc 6 (v := 1) X2 d60_5 rfl (by decide) <| o_iadd 7 (v := 4) X2 d60_6 rfl (by decide) <| mV 10 0 X2 F0 (rm_au27 G F1 F3 F4 (by decide)) (u27 G) all0 d60_7 rfl rfl rfl lr (by decide) all0 ?_
  rintro _ _ _ _ X3 rfl K3 _ C3
  refine sk [] rfl <| oA 11 X3 d60_10 rfl rfl ?_
  have f4 := F1.k0 K3
  have f5 := F0.keep K3
  refine mV 14 0 X3 f5 (rm_au53 G f4 (by decide)) (u61 G) all0 d60_11 rfl rfl rfl lr (by decide) all0 ?_
  rintro _ _ _ _ X6 rfl K6 _ C6
  refine sk [.int 1] rfl <| on 17 X6 d60_14 rfl ((if0 _ _).trans (feq (by decide)).1) <| oI 18 X6 d60_17 rfl rfl <| mS 21 0 X6 (rm_au0 G (by decide)) (u62 G) all0 d60_18 rfl rfl rfl lr (by decide) all0 ?_
  rintro _ _ _ _ X7 rfl K7 _ C7
  refine sk [.int 1] rfl <| on 24 X7 d60_21 rfl ((if0 _ _).trans (feq (by decide)).1) <| oA 25 X7 d60_24 rfl rfl ?_
  have f8 := ((F3.k0 K3).k0 K6).k0 K7
  refine oF 28 X7 (w182 G) Via.refl f8 d60_25 rfl ?_
  intro _ X10
  refine oA 29 X10 d60_28 rfl rfl <| oD 30 X10 d60_29 rfl rfl ?_
  have f11 := ((F2.k0 K3).k0 K6).k0 K7
  refine oF 33 X10 (w206 G) Via.refl f11 d60_30 rfl ?_
  intro _ X13
  refine o_dupX1 34 X13 d60_33 rfl rfl rfl <| oc 35 (v := 1) X13 d60_34 rfl (by decide) <| o_iadd 36 (v := 4) X13 d60_35 rfl (by decide) ?_
  have f14 := (f5.keep K6).keep K7
  refine oP 39 (v' := (.int 4)) X13 (w206 G) Via.refl f11 f14 (Or.inl (w207 G)) (w169 G) fd_2 rfl rfl d60_36 rfl (by omega) (Or.inl (by simp)) (sx X13 f14 nc5) ?_
  intro _ _ X15 W15 C15
  have := W15.size
  have f16 := f11.same W15
  refine oI 40 X15 d60_39 rfl rfl <| o_i2b 41 (v := 32) X15 d60_40 rfl (by decide) ?_
  have f17 := (((F4.k0 K3).k0 K6).k0 K7).oth W15 (by omega)
  have f19 := C15.safe (own_lt (by omega)) (C7.safe (own_lt (by omega)) (C6.safe (own_lt (by omega)) (C3.safe (own_lt (by omega)) sf_pa2)))
  refine sB 42 3 32 X15 f17 (by decide) (lb rfl) (by decide) d60_41 rfl (by omega) (Or.inl (by simp)) f19 ?_
  rintro _ _ X18 ⟨_, _, W18⟩ _ V18
  have := W18.size
  have V20 := V18.as [.int 91, .int pi1, .int 44, .int 32, i0, i0, i0, i0, i0, i0, i0, i0, i0, i0, i0, i0] rfl
  refine og 75 X18 d60_42 (by decide) <| oA 76 X18 d60_75 rfl rfl ?_
  have f21 := (f14.wr W15).wr W18
  have f22 := (((f4.k0 K6).k0 K7).other W15 (Or.inr (sn16 G))).oth W18 (by omega)
  have f23 := f16.oth W18 (by omega)
  have f24 := (f8.other W15 (Or.inr (sn17 G))).oth W18 (by omega)
  have f25 := ((((F5.keep K3).keep K6).keep K7).wr W15).wr W18
  exact oR X18 d60_76 rfl rfl rfl (by decide) (by decide) (fun _ CC => ⟨rfl, f21, f22, f23, f24, V20, f25⟩)
theorem rm_au130 (G : GL l Z a0 zc dce kdce eed keed mroa mral mrul mrur) (F0 : ex6 Z h0 pa1) (F1 : fd10 Z h0 pa1 (.int 0)) (F2 : fd11 Z h0 pa1 (.int 3)) (F3 : fd9 Z h0 pa1 (.ref pa2)) (F4 : av0 Z h0 pa2 pk1 16 [.int 91, .int pi1, .int 44, i0, i0, i0, i0, i0, i0, i0, i0, i0, i0, i0, i0, i0]) (F5 : ex0 Z h0 pa2) (ne : NE pa1 pa2 ∧ n0 ≤ pa1 ∧ n0 ≤ pa2) : M59 l Z 2 0 0 27 #[.ref pa1, .int 32] h0 n0 [pa1, pa2] [pa2] (Q69 Z pa1 pa2 pk1 pi1 h0) := by
  refine mi B59 ef8 (hEW G) fun s X0 hsf0 n0le => ?_
  have := F0.l
  have := F4.l
  have sf_pa2 := hsf0 pa2 (by simp)
  refine oA 1 X0 d59_0 rfl rfl <| oI 2 X0 d59_1 rfl rfl <| mU 5 0 X0 F0 (rm_au129 G F0 F1 F2 F3 F4 F5 (by omega)) (u63 G) (sS (by omega) sf_pa2 all0) d59_2 rfl rfl rfl lr (by decide) (aI (by omega) (by simp) (aI (by omega) (by simp) all0)) ?_
  rintro _ _ _ _ X1 ⟨rfl, q2, q3, q4, q5, q6, q7⟩ _ _ _
  refine sk [.ref pa1] rfl <| o_pop 6 X1 d59_5 rfl rfl <| oA 7 X1 d59_6 rfl rfl ?_
  exact oR X1 d59_7 rfl rfl rfl (by decide) (by decide) (fun _ CC => ⟨rfl, q2, q3, q4, q5, q6, q7⟩)
def Q70 (Z : State) (b1 b2 b3 : Addr) (h0 : Heap) (v : Option Value) (h : Heap) (vm : Vm) : Prop := v = some (.ref b1) ∧ ex7 Z h b2 ∧ fd15 Z h b2 (.int 2) ∧ fd14 Z h b2 (.int 0) ∧ fd13 Z h b2 (.int 1) ∧ fd12 Z h b2 (.ref b3)
theorem rm_au132 (G : GL l Z a0 zc dce kdce eed keed mroa mral mrul mrur) (F0 : ex7 Z h0 pa1) (F1 : fd15 Z h0 pa1 (.int 1)) (F2 : fd14 Z h0 pa1 (.int 0)) (F3 : fd13 Z h0 pa1 (.int 0)) (F4 : fd12 Z h0 pa1 (.ref pa2)) (F5 : fd3 Z h0 pa2 (.ref pa3)) (F6 : fd2 Z h0 pa2 (.int 0)) (F7 : fd4 Z h0 pa2 (.int 2)) (F8 : av2 Z h0 pa3 pk1 2 [.ref pa4, .ref pa5]) (ne : NE pa1 pa2 ∧ NE pa1 pa3 ∧ n0 ≤ pa1) : M61 l Z 1 0 0 12 #[.ref pa1] h0 n0 [pa1] [] (Q70 Z pa5 pa1 pa2 h0) := by
  refine mi B61 ef23 (hEW G) fun s X0 hsf0 n0le => ?_
  have := F0.l
  have := F5.l
  have := F8.l
  refine oA 1 X0 d61_0 rfl rfl <| mV 4 0 X0 F0 (rm_au84 G F2 F4 F6) (u65 G) all0 d61_1 rfl rfl rfl lr (by decide) all0 ?_
  rintro _ _ _ _ X1 rfl K1 _ _
  refine sk [] rfl <| oA 5 X1 d61_4 rfl rfl ?_
  have f2 := F1.k0 K1
  refine oF 8 X1 (w284 G) Via.refl f2 d61_5 rfl ?_
  intro _ X4
  refine oT 9 (l' := #[rr pa1, ii 1, uu]) X4 d61_8 rfl rfl <| oI 10 X4 d61_9 rfl rfl <| oA 11 X4 d61_10 rfl rfl ?_
  have f5 := F4.k0 K1
  refine oF 14 X4 (w266 G) Via.refl f5 d61_11 rfl ?_
  intro _ X7
  have f8 := F7.k0 K1
  refine o_getFN 17 X7 (w286 G) Via.refl f8 d61_14 rfl ?_
  intro _ X10
  refine oY 28 X10 d61_17 (by decide) (tlt (by decide)).1 <| oA 29 X10 d61_28 rfl rfl <| oF 32 X10 (w266 G) Via.refl f5 d61_29 rfl ?_
  intro _ X12
  have f13 := F5.k0 K1
  refine oF 35 X12 (w393 G) Via.refl f13 d61_32 rfl ?_
  intro _ X15
  refine oV 36 (l' := #[rr pa1, ii 1, rr pa3]) X15 d61_35 rfl rfl rfl <| oI 37 X15 d61_36 rfl rfl <| oA 38 X15 d61_37 rfl rfl ?_
  have f16 := F8.k0 K1
  refine oL 39 X15 f16 d61_38 rfl <| oY 50 X15 d61_39 (by decide) (tlt (by decide)).1 <| oA 51 X15 d61_50 rfl rfl <| oI 52 X15 d61_51 rfl rfl <| oc 53 (v := 1) X15 d61_52 rfl (by decide) <| o_iadd 54 (v := 2) X15 d61_53 rfl (by decide) ?_
  have f17 := F0.keep K1
  refine oP 57 (v' := (.int 2)) X15 (w284 G) Via.refl f2 f17 (Or.inl (w285 G)) (w260 G) fd_2 rfl rfl d61_54 rfl (by omega) (Or.inl (by simp)) (sx X15 f17 nc6) ?_
  intro _ _ X18 W18 _
  have := W18.size
  have f19 := f2.same W18
  refine oA 58 X18 d61_57 rfl rfl <| oA 59 X18 d61_58 rfl rfl <| oI 60 X18 d61_59 rfl rfl <| o_dupX1 61 X18 d61_60 rfl rfl rfl ?_
  have f20 := (F3.k0 K1).other W18 (Or.inr (sn27 G))
  have f21 := f17.wr W18
  refine oP 64 (v' := (.int 1)) X18 (w269 G) Via.refl f20 f21 (Or.inl (w270 G)) (w260 G) fd_2 rfl rfl d61_61 rfl (by omega) (Or.inl (by simp)) (sx X18 f21 nc6) ?_
  intro _ _ X22 W22 _
  have := W22.size
  have f23 := f20.same W22
  have f24 := (f16.oth W18 (by omega)).oth W22 (by omega)
  refine o_aaload 65 (v := (.ref pa5)) X22 f24 rfl ⟨by decide, by decide⟩ rfl d61_64 rfl ?_
  have f25 := f21.wr W22
  have f26 := f19.other W22 (Or.inr (sn23 G))
  have f27 := ((F2.k0 K1).other W18 (Or.inr (sn28 G))).other W22 (Or.inr (sn21 G))
  have f28 := (f5.other W18 (Or.inr (sn29 G))).other W22 (Or.inr (sn19 G))
  exact oR X22 d61_65 rfl rfl rfl (by decide) (by decide) (fun _ CC => ⟨rfl, f25, f26, f27, f23, f28⟩)
def Q71 (Z : State) (b1 : Addr) (b2 : ClassId) (b3 b4 : Int32) (h0 : Heap) (v : Option Value) (h : Heap) (vm : Vm) : Prop := v = none ∧ av0 Z h b1 b2 16 [.int 91, .int b3, .int 44, .int 32, .int b4, i0, i0, i0, i0, i0, i0, i0, i0, i0, i0, i0] ∧ ex0 Z h b1
theorem rm_au133 (G : GL l Z a0 zc dce kdce eed keed mroa mral mrul mrur) (F0 : ex1 Z h0 pa1) (F1 : fd1 Z h0 pa1 (.int 0)) (F2 : fd0 Z h0 pa1 (.ref pa3)) (F3 : av0 Z h0 pa2 pk1 16 [.int 91, .int pi1, .int 44, .int 32, i0, i0, i0, i0, i0, i0, i0, i0, i0, i0, i0, i0]) (F4 : ex0 Z h0 pa2) (F5 : av0 Z h0 pa3 pk2 1 [.int pi2]) (ne : NE pa1 pa2 ∧ NE pa2 pa3 ∧ n0 ≤ pa2) : M34 l Z 1 0 0 40 #[.ref pa1, .ref pa2, .int 4, i0] h0 n0 [pa2] [pa2] (Q71 Z pa2 pk1 pi1 pi2 h0) := by
  refine mi B34 ef16 (hEW G) fun s X0 hsf0 n0le => ?_
  have := F0.l
  have := F3.l
  have := F5.l
  have sf_pa2 := hsf0 pa2 (by simp)
  refine oA 1 X0 d34_0 rfl rfl <| mV 4 0 X0 F0 (rm_au25 G F1) (u25 G) all0 d34_1 rfl rfl rfl lr (by decide) all0 ?_
  rintro _ _ _ _ X1 rfl K1 _ C1
  refine sk [i0] rfl <| oI 5 X1 d34_4 rfl rfl <| oN 8 X1 d34_5 rfl (teq (by decide)).2 <| oA 9 X1 d34_8 rfl rfl ?_
  have f2 := F2.k0 K1
  refine oF 12 X1 (w22 G) Via.refl f2 d34_9 rfl ?_
  intro _ X4
  refine oc 13 (v := 0) X4 d34_12 rfl (by decide) <| oA 14 X4 d34_13 rfl rfl <| oI 15 X4 d34_14 rfl rfl <| oI 16 X4 d34_15 rfl rfl <| o_ishl 17 (v := 4) X4 d34_16 rfl (by decide) <| oA 18 X4 d34_17 rfl rfl <| oF 21 X4 (w22 G) Via.refl f2 d34_18 rfl ?_
  intro _ X6
  have f7 := F5.k0 K1
  refine oL 22 X6 f7 d34_21 rfl ?_
  have f8 := F3.k0 K1
  have f9 := C1.safe (own_lt (by omega)) sf_pa2
  refine o_cp 25 (us := [.int pi2]) (vr := [.int 91, .int pi1, .int 44, .int 32, .int pi2, i0, i0, i0, i0, i0, i0, i0, i0, i0, i0, i0]) (W := 0) X6 (w229 G) (w119 G) (w117 G) (w118 G) f7 f8 (Or.inl ⟨rfl, rfl⟩) (by decide) (by decide) (by decide) (by decide) (by decide) rfl (Nat.le_of_ble_eq_true rfl) rfl d34_22 rfl rfl (by decide) (Nat.le_of_eq rfl) (by decide) (by omega) (Or.inl (by simp)) f9 ?_
  intro _ _ X10 K10 _ V10
  have := K10.1
  refine og 43 X10 d34_25 (by decide) ?_
  have f11 := (F4.keep K1).keep K10
  exact oz X10 d34_43 rfl (by decide) (by decide) (fun _ CC => ⟨rfl, V10, f11⟩)
theorem rm_au134 (G : GL l Z a0 zc dce kdce eed keed mroa mral mrul mrur) (F0 : ex6 Z h0 pa1) (F1 : fd10 Z h0 pa1 (.int 0)) (F2 : fd9 Z h0 pa1 (.ref pa3)) (F3 : ex1 Z h0 pa2) (F4 : fd1 Z h0 pa2 (.int 0)) (F5 : fd0 Z h0 pa2 (.ref pa4)) (F6 : av0 Z h0 pa3 pk1 16 [.int 91, .int pi1, .int 44, .int 32, i0, i0, i0, i0, i0, i0, i0, i0, i0, i0, i0, i0]) (F7 : ex0 Z h0 pa3) (F8 : av0 Z h0 pa4 pk2 1 [.int pi2]) (ne : NE pa1 pa3 ∧ NE pa2 pa3 ∧ NE pa3 pa4 ∧ n0 ≤ pa3) : M32 l Z 2 0 0 55 #[.ref pa1, .int 4, .ref pa2] h0 n0 [pa3] [pa3] (Q71 Z pa3 pk1 pi1 pi2 h0) := by
  refine mi B32 ef15 (hEW G) fun s X0 hsf0 n0le => ?_
  have := F0.l
  have := F3.l
  have := F6.l
  have := F8.l
  have sf_pa3 := hsf0 pa3 (by simp)
  refine oA 1 X0 d32_0 rfl rfl <| oA 2 X0 d32_1 rfl rfl <| mV 5 0 X0 F0 (rm_au28 G F1 F3 F4) (u29 G) all0 d32_2 rfl rfl rfl lr (by decide) all0 ?_
  rintro _ _ _ _ X1 rfl K1 _ C1
  refine sk [] rfl <| oA 6 X1 d32_5 rfl rfl <| oA 7 X1 d32_6 rfl rfl ?_
  have f2 := F2.k0 K1
  refine oF 10 X1 (w182 G) Via.refl f2 d32_7 rfl ?_
  intro _ X4
  refine oI 11 X4 d32_10 rfl rfl <| oA 12 X4 d32_11 rfl rfl ?_
  have f5 := F1.k0 K1
  refine oF 15 X4 (w184 G) Via.refl f5 d32_12 rfl ?_
  intro _ X7
  have f8 := F3.keep K1
  have f9 := F4.k0 K1
  have f10 := F5.k0 K1
  have f11 := F6.k0 K1
  have f12 := F7.keep K1
  have f13 := F8.k0 K1
  have f14 := C1.safe (own_lt (by omega)) sf_pa3
  refine mV 18 0 X7 f8 (rm_au133 G f8 f9 f10 f11 f12 f13 (by omega)) (u30 G) (sS (by omega) f14 all0) d32_15 rfl rfl rfl lr (by decide) (aI (by omega) (by simp) all0) ?_
  rintro _ _ _ _ X15 ⟨rfl, q16, q17⟩ _ _ _
  refine sk [] rfl ?_
  exact oz X15 d32_18 rfl (by decide) (by decide) (fun _ CC => ⟨rfl, q16, q17⟩)
def Q72 (Z : State) (b1 b2 : Addr) (b3 : ClassId) (b4 b5 : Int32) (h0 : Heap) (v : Option Value) (h : Heap) (vm : Vm) : Prop := v = some (.ref b1) ∧ ex6 Z h b1 ∧ fd10 Z h b1 (.int 0) ∧ fd11 Z h b1 (.int 5) ∧ fd9 Z h b1 (.ref b2) ∧ av0 Z h b2 b3 16 [.int 91, .int b4, .int 44, .int 32, .int b5, i0, i0, i0, i0, i0, i0, i0, i0, i0, i0, i0] ∧ ex0 Z h b2
theorem rm_au135 (G : GL l Z a0 zc dce kdce eed keed mroa mral mrul mrur) (F0 : ex6 Z h0 pa1) (F1 : fd10 Z h0 pa1 (.int 0)) (F2 : fd11 Z h0 pa1 (.int 4)) (F3 : fd9 Z h0 pa1 (.ref pa3)) (F4 : ex1 Z h0 pa2) (F5 : fd1 Z h0 pa2 (.int 0)) (F6 : fd0 Z h0 pa2 (.ref pa4)) (F7 : av0 Z h0 pa3 pk1 16 [.int 91, .int pi1, .int 44, .int 32, i0, i0, i0, i0, i0, i0, i0, i0, i0, i0, i0, i0]) (F8 : ex0 Z h0 pa3) (F9 : av0 Z h0 pa4 pk2 1 [.int pi2]) (ne : NE pa1 pa2 ∧ NE pa1 pa3 ∧ NE pa1 pa4 ∧ NE pa2 pa3 ∧ NE pa3 pa4 ∧ n0 ≤ pa1 ∧ n0 ≤ pa3) : M28 l Z 3 0 0 69 #[.ref pa1, .ref pa2] h0 n0 [pa1, pa3] [pa3] (Q72 Z pa1 pa3 pk1 pi1 pi2 h0) := by
  refine mi B28 ef11 (hEW G) fun s X0 hsf0 n0le => ?_
  have := F0.l
  have := F4.l
  have := F7.l
  have := F9.l
  have sf_pa3 := hsf0 pa3 (by simp)
  refine oA 1 X0 d28_0 rfl rfl <| ifnonnullYesJ 9 X0 d28_1 (by decide) <| oA 10 X0 d28_9 rfl rfl <| mV 13 0 X0 F4 (rm_au26 G F4 F5 F6 F9) (u26 G) all0 d28_10 rfl rfl rfl lr (by decide) all0 ?_
  rintro _ _ _ _ X1 rfl K1 _ C1
  refine sk [.int 1] rfl <| oT 14 (l' := #[rr pa1, rr pa2, ii 1]) X1 d28_13 rfl rfl <| oA 15 X1 d28_14 rfl rfl <| oA 16 X1 d28_15 rfl rfl ?_
  have f2 := F2.k0 K1
  refine oF 19 X1 (w206 G) Via.refl f2 d28_16 rfl ?_
  intro _ X4
  refine oI 20 X4 d28_19 rfl rfl <| o_iadd 21 (v := 5) X4 d28_20 rfl (by decide) ?_
  have f5 := F1.k0 K1
  have f6 := F3.k0 K1
  have f7 := F7.k0 K1
  have f8 := F0.keep K1
  refine mV 24 0 X4 f8 (rm_au27 G f5 f6 f7 (by decide)) (u27 G) all0 d28_21 rfl rfl rfl lr (by decide) all0 ?_
  rintro _ _ _ _ X9 rfl K9 _ C9
  refine sk [] rfl <| oA 25 X9 d28_24 rfl rfl <| oA 26 X9 d28_25 rfl rfl ?_
  have f10 := f2.k0 K9
  refine oF 29 X9 (w206 G) Via.refl f10 d28_26 rfl ?_
  intro _ X12
  refine oA 30 X12 d28_29 rfl rfl ?_
  have f13 := f8.keep K9
  have f14 := f5.k0 K9
  have f15 := f6.k0 K9
  have f16 := (F4.keep K1).keep K9
  have f17 := (F5.k0 K1).k0 K9
  have f18 := (F6.k0 K1).k0 K9
  have f19 := f7.k0 K9
  have f20 := (F8.keep K1).keep K9
  have f21 := (F9.k0 K1).k0 K9
  have f22 := C9.safe (own_lt (by omega)) (C1.safe (own_lt (by omega)) sf_pa3)
  refine mV 33 0 X12 f13 (rm_au134 G f13 f14 f15 f16 f17 f18 f19 f20 f21 (by omega)) (u31 G) (sS (by omega) f22 all0) d28_30 rfl rfl rfl lr (by decide) (aI (by omega) (by simp) all0) ?_
  rintro _ _ _ _ X23 ⟨rfl, q24, q25⟩ K23 _ _
  refine sk [] rfl <| oA 34 X23 d28_33 rfl rfl <| oD 35 X23 d28_34 rfl rfl ?_
  have f26 := f10.k1 K23 (by omega)
  refine oF 38 X23 (w206 G) Via.refl f26 d28_35 rfl ?_
  intro _ X28
  refine oI 39 X28 d28_38 rfl rfl <| o_iadd 40 (v := 5) X28 d28_39 rfl (by decide) ?_
  have f29 := f13.keep K23
  refine oP 43 (v' := (.int 5)) X28 (w206 G) Via.refl f26 f29 (Or.inl (w207 G)) (w169 G) fd_2 rfl rfl d28_40 rfl (by omega) (Or.inl (by simp)) (sx X28 f29 nc5) ?_
  intro _ _ X30 W30 _
  have := W30.size
  have f31 := f26.same W30
  refine oA 44 X30 d28_43 rfl rfl ?_
  have f32 := f29.wr W30
  have f33 := (f14.k1 K23 (by omega)).other W30 (Or.inr (sn16 G))
  have f34 := (f15.k1 K23 (by omega)).other W30 (Or.inr (sn17 G))
  have f35 := q24.oth W30 (by omega)
  have f36 := q25.wr W30
  exact oR X30 d28_44 rfl rfl rfl (by decide) (by decide) (fun _ CC => ⟨rfl, f32, f33, f31, f34, f35, f36⟩)
theorem rm_au136 (G : GL l Z a0 zc dce kdce eed keed mroa mral mrul mrur) (F0 : ex6 Z h0 pa1) (F1 : fd10 Z h0 pa1 (.int 0)) (F2 : fd11 Z h0 pa1 (.int 4)) (F3 : fd9 Z h0 pa1 (.ref pa3)) (F4 : ex1 Z h0 pa2) (F5 : fd1 Z h0 pa2 (.int 0)) (F6 : fd0 Z h0 pa2 (.ref pa4)) (F7 : av0 Z h0 pa3 pk1 16 [.int 91, .int pi1, .int 44, .int 32, i0, i0, i0, i0, i0, i0, i0, i0, i0, i0, i0, i0]) (F8 : ex0 Z h0 pa3) (F9 : av0 Z h0 pa4 pk2 1 [.int pi2]) (ne : NE pa1 pa2 ∧ NE pa1 pa3 ∧ NE pa1 pa4 ∧ NE pa2 pa3 ∧ NE pa3 pa4 ∧ n0 ≤ pa1 ∧ n0 ≤ pa3) : M27 l Z 4 0 0 83 #[.ref pa1, .ref pa2] h0 n0 [pa1, pa3] [pa3] (Q72 Z pa1 pa3 pk1 pi1 pi2 h0) := by
  refine mi B27 ef4 (hEW G) fun s X0 hsf0 n0le => ?_
  have := F0.l
  have := F4.l
  have := F7.l
  have := F9.l
  have sf_pa3 := hsf0 pa3 (by simp)
  refine oA 1 X0 d27_0 rfl rfl <| oA 2 X0 d27_1 rfl rfl <| mU 5 0 X0 F0 (rm_au135 G F0 F1 F2 F3 F4 F5 F6 F7 F8 F9 (by omega)) (u32 G) (sS (by omega) sf_pa3 all0) d27_2 rfl rfl rfl lr (by decide) (aI (by omega) (by simp) (aI (by omega) (by simp) all0)) ?_
  rintro _ _ _ _ X1 ⟨rfl, q2, q3, q4, q5, q6, q7⟩ _ _ _
  refine sk [.ref pa1] rfl <| o_pop 6 X1 d27_5 rfl rfl <| oA 7 X1 d27_6 rfl rfl ?_
  exact oR X1 d27_7 rfl rfl rfl (by decide) (by decide) (fun _ CC => ⟨rfl, q2, q3, q4, q5, q6, q7⟩)
theorem rm_au137 (G : GL l Z a0 zc dce kdce eed keed mroa mral mrul mrur) (F0 : ex6 Z h0 pa1) (F1 : fd10 Z h0 pa1 (.int 0)) (F2 : fd11 Z h0 pa1 (.int 4)) (F3 : fd9 Z h0 pa1 (.ref pa3)) (F4 : ex1 Z h0 pa2) (F5 : fd1 Z h0 pa2 (.int 0)) (F6 : fd0 Z h0 pa2 (.ref pa4)) (F7 : av0 Z h0 pa3 pk1 16 [.int 91, .int pi1, .int 44, .int 32, i0, i0, i0, i0, i0, i0, i0, i0, i0, i0, i0, i0]) (F8 : ex0 Z h0 pa3) (F9 : av0 Z h0 pa4 pk2 1 [.int pi2]) (ne : NE pa1 pa2 ∧ NE pa1 pa3 ∧ NE pa1 pa4 ∧ NE pa2 pa3 ∧ NE pa3 pa4 ∧ n0 ≤ pa1 ∧ n0 ≤ pa3) : M35 l Z 5 0 0 96 #[.ref pa1, .ref pa2] h0 n0 [pa1, pa3] [pa3] (Q72 Z pa1 pa3 pk1 pi1 pi2 h0) := by
  refine mi B35 ef4 (hEW G) fun s X0 hsf0 n0le => ?_
  have := F0.l
  have := F4.l
  have := F7.l
  have := F9.l
  have sf_pa3 := hsf0 pa3 (by simp)
  refine oA 1 X0 d35_0 rfl rfl <| oA 2 X0 d35_1 rfl rfl <| mS 5 1 X0 (rm_au87 G F4) (u39 G) all0 d35_2 rfl rfl rfl lr (by decide) all0 ?_
  rintro _ _ _ _ X1 rfl K1 _ C1
  refine sk [.ref pa2, .ref pa1] rfl ?_
  have f2 := F0.keep K1
  have f3 := F1.k0 K1
  have f4 := F2.k0 K1
  have f5 := F3.k0 K1
  have f6 := F4.keep K1
  have f7 := F5.k0 K1
  have f8 := F6.k0 K1
  have f9 := F7.k0 K1
  have f10 := F8.keep K1
  have f11 := F9.k0 K1
  have f12 := C1.safe (own_lt (by omega)) sf_pa3
  refine mV 8 0 X1 f2 (rm_au136 G f2 f3 f4 f5 f6 f7 f8 f9 f10 f11 (by omega)) (u40 G) (sS (by omega) f12 all0) d35_5 rfl rfl rfl lr (by decide) (aI (by omega) (by simp) (aI (by omega) (by simp) all0)) ?_
  rintro _ _ _ _ X13 ⟨rfl, q14, q15, q16, q17, q18, q19⟩ _ _ _
  refine sk [.ref pa1] rfl ?_
  exact oR X13 d35_8 rfl rfl rfl (by decide) (by decide) (fun _ CC => ⟨rfl, q14, q15, q16, q17, q18, q19⟩)
def Q73 (Z : State) (b1 b2 : Addr) (b3 : ClassId) (b4 b5 : Int32) (h0 : Heap) (v : Option Value) (h : Heap) (vm : Vm) : Prop := v = some (.ref b1) ∧ ex6 Z h b1 ∧ fd10 Z h b1 (.int 0) ∧ fd11 Z h b1 (.int 6) ∧ fd9 Z h b1 (.ref b2) ∧ av0 Z h b2 b3 16 [.int 91, .int b4, .int 44, .int 32, .int b5, .int 93, i0, i0, i0, i0, i0, i0, i0, i0, i0, i0] ∧ ex0 Z h b2
theorem rm_au138 (G : GL l Z a0 zc dce kdce eed keed mroa mral mrul mrur) (F0 : ex6 Z h0 pa1) (F1 : fd10 Z h0 pa1 (.int 0)) (F2 : fd11 Z h0 pa1 (.int 5)) (F3 : fd9 Z h0 pa1 (.ref pa2)) (F4 : av0 Z h0 pa2 pk1 16 [.int 91, .int pi1, .int 44, .int 32, .int pi2, i0, i0, i0, i0, i0, i0, i0, i0, i0, i0, i0]) (F5 : ex0 Z h0 pa2) (ne : NE pa1 pa2 ∧ n0 ≤ pa1 ∧ n0 ≤ pa2) : M60 l Z 1 0 0 14 #[.ref pa1, .int 93] h0 n0 [pa1, pa2] [pa2] (Q73 Z pa1 pa2 pk1 pi1 pi2 h0) := by
  refine mi B60 ef8 (hEW G) fun s X0 hsf0 n0le => ?_
  have := F0.l
  have := F4.l
  have sf_pa2 := hsf0 pa2 (by simp)
  refine oA 1 X0 d60_0 rfl rfl <| oA 2 X0 d60_1 rfl rfl <| oF 5 X0 (w206 G) Via.refl F2 d60_2 rfl ?_
  intro _ X2
  refine oc 6 (v := 1) X2 d60_5 rfl (by decide) <| o_iadd 7 (v := 6) X2 d60_6 rfl (by decide) <| mV 10 0 X2 F0 (rm_au27 G F1 F3 F4 (by decide)) (u27 G) all0 d60_7 rfl rfl rfl lr (by decide) all0 ?_
  rintro _ _ _ _ X3 rfl K3 _ C3
  refine sk [] rfl <| oA 11 X3 d60_10 rfl rfl ?_
  have f4 := F1.k0 K3
  have f5 := F0.keep K3
  refine mV 14 0 X3 f5 (rm_au53 G f4 (by decide)) (u61 G) all0 d60_11 rfl rfl rfl lr (by decide) all0 ?_
  rintro _ _ _ _ X6 rfl K6 _ C6
  refine sk [.int 1] rfl <| on 17 X6 d60_14 rfl ((if0 _ _).trans (feq (by decide)).1) <| oI 18 X6 d60_17 rfl rfl <| mS 21 0 X6 (rm_au0 G (by decide)) (u62 G) all0 d60_18 rfl rfl rfl lr (by decide) all0 ?_
  rintro _ _ _ _ X7 rfl K7 _ C7
  refine sk [.int 1] rfl <| on 24 X7 d60_21 rfl ((if0 _ _).trans (feq (by decide)).1) <| oA 25 X7 d60_24 rfl rfl ?_
  have f8 := ((F3.k0 K3).k0 K6).k0 K7
  refine oF 28 X7 (w182 G) Via.refl f8 d60_25 rfl ?_
  intro _ X10
  refine oA 29 X10 d60_28 rfl rfl <| oD 30 X10 d60_29 rfl rfl ?_
  have f11 := ((F2.k0 K3).k0 K6).k0 K7
  refine oF 33 X10 (w206 G) Via.refl f11 d60_30 rfl ?_
  intro _ X13
  refine o_dupX1 34 X13 d60_33 rfl rfl rfl <| oc 35 (v := 1) X13 d60_34 rfl (by decide) <| o_iadd 36 (v := 6) X13 d60_35 rfl (by decide) ?_
  have f14 := (f5.keep K6).keep K7
  refine oP 39 (v' := (.int 6)) X13 (w206 G) Via.refl f11 f14 (Or.inl (w207 G)) (w169 G) fd_2 rfl rfl d60_36 rfl (by omega) (Or.inl (by simp)) (sx X13 f14 nc5) ?_
  intro _ _ X15 W15 C15
  have := W15.size
  have f16 := f11.same W15
  refine oI 40 X15 d60_39 rfl rfl <| o_i2b 41 (v := 93) X15 d60_40 rfl (by decide) ?_
  have f17 := (((F4.k0 K3).k0 K6).k0 K7).oth W15 (by omega)
  have f19 := C15.safe (own_lt (by omega)) (C7.safe (own_lt (by omega)) (C6.safe (own_lt (by omega)) (C3.safe (own_lt (by omega)) sf_pa2)))
  refine sB 42 5 93 X15 f17 (by decide) (lb rfl) (by decide) d60_41 rfl (by omega) (Or.inl (by simp)) f19 ?_
  rintro _ _ X18 ⟨_, _, W18⟩ _ V18
  have := W18.size
  have V20 := V18.as [.int 91, .int pi1, .int 44, .int 32, .int pi2, .int 93, i0, i0, i0, i0, i0, i0, i0, i0, i0, i0] rfl
  refine og 75 X18 d60_42 (by decide) <| oA 76 X18 d60_75 rfl rfl ?_
  have f21 := (f14.wr W15).wr W18
  have f22 := (((f4.k0 K6).k0 K7).other W15 (Or.inr (sn16 G))).oth W18 (by omega)
  have f23 := f16.oth W18 (by omega)
  have f24 := (f8.other W15 (Or.inr (sn17 G))).oth W18 (by omega)
  have f25 := ((((F5.keep K3).keep K6).keep K7).wr W15).wr W18
  exact oR X18 d60_76 rfl rfl rfl (by decide) (by decide) (fun _ CC => ⟨rfl, f21, f22, f23, f24, V20, f25⟩)
theorem rm_au139 (G : GL l Z a0 zc dce kdce eed keed mroa mral mrul mrur) (F0 : ex6 Z h0 pa1) (F1 : fd10 Z h0 pa1 (.int 0)) (F2 : fd11 Z h0 pa1 (.int 5)) (F3 : fd9 Z h0 pa1 (.ref pa2)) (F4 : av0 Z h0 pa2 pk1 16 [.int 91, .int pi1, .int 44, .int 32, .int pi2, i0, i0, i0, i0, i0, i0, i0, i0, i0, i0, i0]) (F5 : ex0 Z h0 pa2) (ne : NE pa1 pa2 ∧ n0 ≤ pa1 ∧ n0 ≤ pa2) : M59 l Z 2 0 0 27 #[.ref pa1, .int 93] h0 n0 [pa1, pa2] [pa2] (Q73 Z pa1 pa2 pk1 pi1 pi2 h0) := by
  refine mi B59 ef8 (hEW G) fun s X0 hsf0 n0le => ?_
  have := F0.l
  have := F4.l
  have sf_pa2 := hsf0 pa2 (by simp)
  refine oA 1 X0 d59_0 rfl rfl <| oI 2 X0 d59_1 rfl rfl <| mU 5 0 X0 F0 (rm_au138 G F0 F1 F2 F3 F4 F5 (by omega)) (u63 G) (sS (by omega) sf_pa2 all0) d59_2 rfl rfl rfl lr (by decide) (aI (by omega) (by simp) (aI (by omega) (by simp) all0)) ?_
  rintro _ _ _ _ X1 ⟨rfl, q2, q3, q4, q5, q6, q7⟩ _ _ _
  refine sk [.ref pa1] rfl <| o_pop 6 X1 d59_5 rfl rfl <| oA 7 X1 d59_6 rfl rfl ?_
  exact oR X1 d59_7 rfl rfl rfl (by decide) (by decide) (fun _ CC => ⟨rfl, q2, q3, q4, q5, q6, q7⟩)
def Q74 (Z : State) (b1 b2 : Int32) (h0 : Heap) (v : Option Value) (h : Heap) (vm : Vm) : Prop := ∃ (xa1 : Addr) (xk1 : ClassId), v = some (.ref xa1) ∧ av0 Z h xa1 xk1 6 [.int 91, .int b1, .int 44, .int 32, .int b2, .int 93] ∧ ex0 Z h xa1 ∧ Safe Z EL0 vm h xa1 ∧ h0.size ≤ xa1 ∧ h.size > xa1
theorem rm_au140 (G : GL l Z a0 zc dce kdce eed keed mroa mral mrul mrur) (F0 : av0 Z h0 pa1 pk1 16 [.int 91, .int pi1, .int 44, .int 32, .int pi2, .int 93, i0, i0, i0, i0, i0, i0, i0, i0, i0, i0]) : M50 l Z 1 1 6 40 #[.ref pa1, i0, .int 6] h0 n0 [] [] (Q74 Z pi1 pi2 h0) := by
  refine mi B50 ef20 (hEW G) fun s X0 hsf0 n0le => ?_
  have := F0.l
  refine oI 1 X0 d50_0 rfl rfl <| oI 2 X0 d50_1 rfl rfl <| mS 5 0 X0 (rm_au54 G (by decide)) (u46 G) all0 d50_2 rfl rfl rfl lr (by decide) all0 ?_
  rintro _ _ _ _ X1 rfl K1 _ _
  refine sk [] rfl <| oI 6 X1 d50_5 rfl rfl <| oI 7 X1 d50_6 rfl rfl <| o_isub 8 (v := 6) X1 d50_7 rfl (by decide) <| oT 9 (l' := #[rr pa1, ii 0, ii 6, ii 6, uu]) X1 d50_8 rfl rfl <| oI 10 X1 d50_9 rfl rfl <| nP (aty := .byte) 12 6 X1 (w14 G) d50_10 rfl (by decide) had_byte ?_
  intro _ h2 b2 k2 X2 _ _ E2 V2 A2 _ S2
  have V3 : av0 Z h2 b2 k2 6 [i0, i0, i0, i0, i0, i0] := V2.pad (pad_rep [] (.int (0 : Int32)) 6)
  refine oU 14 (l' := #[rr pa1, ii 0, ii 6, ii 6, rr b2]) X2 d50_12 rfl rfl rfl <| oA 15 X2 d50_14 rfl rfl <| oI 16 X2 d50_15 rfl rfl <| oa 18 X2 d50_16 rfl rfl <| oc 19 (v := 0) X2 d50_18 rfl (by decide) <| oA 20 X2 d50_19 rfl rfl ?_
  have f4 := (F0.k0 K1).ext E2
  refine oL 21 X2 f4 d50_20 rfl <| oI 22 X2 d50_21 rfl rfl <| o_isub 23 (v := 16) X2 d50_22 rfl (by decide) <| oI 24 X2 d50_23 rfl rfl <| mS 27 4 X2 (rm_au55 G (by decide)) (u13 G) all0 d50_24 rfl rfl rfl lr (by decide) all0 ?_
  rintro _ _ _ _ X5 rfl K5 _ C5
  refine sk [.int 6, i0, .ref b2, i0, .ref pa1] rfl ?_
  have f6 := f4.k0 K5
  have f7 := V3.k0 K5
  have f8 := C5.safe (own_lt (by omega)) S2
  refine o_cp 30 (us := [.int 91, .int pi1, .int 44, .int 32, .int pi2, .int 93]) (vr := [.int 91, .int pi1, .int 44, .int 32, .int pi2, .int 93]) (W := 0) X5 (w116 G) (w119 G) (w117 G) (w118 G) f6 f7 (Or.inl ⟨rfl, rfl⟩) (by decide) (by decide) (by decide) (by decide) (by decide) rfl (Nat.le_of_ble_eq_true rfl) rfl d50_27 rfl rfl (by decide) (Nat.le_of_eq rfl) (by decide) (by omega) (Or.inr (by omega)) f8 ?_
  intro _ _ X9 K9 C9 V9
  have := K9.1
  refine oa 32 X9 d50_30 rfl rfl ?_
  have f10 := (A2.keep K5).keep K9
  have f11 := C9.safe (own_lt (by omega)) f8
  exact oR X9 d50_32 rfl rfl rfl (by decide) (by decide) (fun _ CC => ⟨b2, k2, rfl, V9, f10, (CC.safe (own_lt (by omega)) f11), by omega⟩)
theorem rm_au141 (G : GL l Z a0 zc dce kdce eed keed mroa mral mrul mrur) (F0 : av0 Z h0 pa1 pk1 16 [.int 91, .int pi1, .int 44, .int 32, .int pi2, .int 93, i0, i0, i0, i0, i0, i0, i0, i0, i0, i0]) : M49 l Z 2 1 6 56 #[.ref pa1, i0, .int 6] h0 n0 [] [] (Q74 Z pi1 pi2 h0) := by
  refine mi B49 ef19 (hEW G) fun s X0 hsf0 n0le => ?_
  have := F0.l
  refine oI 1 X0 d49_0 rfl rfl <| on 4 X0 d49_1 rfl ((if0 _ _).trans (teq (by decide)).2) <| oI 5 X0 d49_4 rfl rfl <| oA 6 X0 d49_5 rfl rfl <| oL 7 X0 F0 d49_6 rfl <| oN 10 X0 d49_7 rfl (feq (by decide)).1 <| oA 11 X0 d49_10 rfl rfl <| oI 12 X0 d49_11 rfl rfl <| oI 13 X0 d49_12 rfl rfl <| mS 16 0 X0 (rm_au140 G F0) (u47 G) all0 d49_13 rfl rfl rfl lr (by decide) all0 ?_
  rintro _ _ _ _ X1 ⟨xa1_2, xk1_3, rfl, q4, q5, q6, _⟩ _ _ _
  refine sk [.ref xa1_2] rfl ?_
  exact oR X1 d49_16 rfl rfl rfl (by decide) (by decide) (fun _ CC => ⟨xa1_2, xk1_3, rfl, q4, q5, (CC.safe (own_lt (by omega)) q6), by omega⟩)
def Q75 (Z : State) (b1 : Addr) (b2 b3 : Int32) (h0 : Heap) (v : Option Value) (h : Heap) (vm : Vm) : Prop := ∃ (xa1 : Addr) (xk1 : ClassId), v = none ∧ ex1 Z h b1 ∧ fd1 Z h b1 (.int 0) ∧ fd0 Z h b1 (.ref xa1) ∧ av0 Z h xa1 xk1 6 [.int 91, .int b2, .int 44, .int 32, .int b3, .int 93] ∧ ex0 Z h xa1 ∧ Safe Z EL0 vm h xa1 ∧ h0.size ≤ xa1 ∧ h.size > xa1
theorem rm_au142 (G : GL l Z a0 zc dce kdce eed keed mroa mral mrul mrur) (F0 : ex1 Z h0 pa1) (F1 : fd1 Z h0 pa1 (.int 0)) (F2 : fd0 Z h0 pa1 .null) (F3 : ex6 Z h0 pa2) (F4 : fd10 Z h0 pa2 (.int 0)) (F5 : fd11 Z h0 pa2 (.int 6)) (F6 : fd9 Z h0 pa2 (.ref pa3)) (F7 : av0 Z h0 pa3 pk1 16 [.int 91, .int pi1, .int 44, .int 32, .int pi2, .int 93, i0, i0, i0, i0, i0, i0, i0, i0, i0, i0]) (ne : NE pa1 pa2 ∧ NE pa1 pa3 ∧ n0 ≤ pa1) : M44 l Z 3 1 6 71 #[.ref pa1, .ref pa2, .null] h0 n0 [pa1] [pa1] (Q75 Z pa1 pi1 pi2 h0) := by
  refine mi B44 ef18 (hEW G) fun s X0 hsf0 n0le => ?_
  have := F0.l
  have := F3.l
  have := F7.l
  have sf_pa1 := hsf0 pa1 (by simp)
  refine oA 1 X0 d44_0 rfl rfl <| o_initO 4 (W := 0) X0 (w19 G) (w20 G) (w21 G) rfl (by decide) (Nat.le_of_eq rfl) (by decide) d44_1 rfl ?_
  intro _ X2
  refine oA 5 X2 d44_4 rfl rfl <| mV 8 0 X2 F3 (rm_au50 G F6) (u42 G) all0 d44_5 rfl rfl rfl lr (by decide) all0 ?_
  rintro _ _ _ _ X3 rfl K3 _ C3
  refine sk [.ref pa3] rfl <| oV 9 (l' := #[rr pa1, rr pa2, .val .null, rr pa3, uu]) X3 d44_8 rfl rfl rfl <| oA 10 X3 d44_9 rfl rfl ?_
  have f4 := F3.keep K3
  have f5 := F5.k0 K3
  refine mV 13 0 X3 f4 (rm_au52 G f4 f5) (u44 G) all0 d44_10 rfl rfl rfl lr (by decide) all0 ?_
  rintro _ _ _ _ X6 rfl K6 _ C6
  refine sk [.int 6] rfl <| oS 15 (l' := #[rr pa1, rr pa2, .val .null, rr pa3, ii 6]) X6 d44_13 rfl rfl <| oA 16 X6 d44_15 rfl rfl ?_
  have f7 := (F4.k0 K3).k0 K6
  have f8 := f4.keep K6
  refine mV 19 0 X6 f8 (rm_au53 G f7 (by decide)) (u45 G) all0 d44_16 rfl rfl rfl lr (by decide) all0 ?_
  rintro _ _ _ _ X9 rfl K9 _ C9
  refine sk [.int 1] rfl <| on 22 X9 d44_19 rfl ((if0 _ _).trans (feq (by decide)).1) <| oA 23 X9 d44_22 rfl rfl <| oc 24 (v := 0) X9 d44_23 rfl (by decide) ?_
  have f10 := ((F1.k0 K3).k0 K6).k0 K9
  have f11 := ((F0.keep K3).keep K6).keep K9
  have f13 := C9.safe (own_lt (by omega)) (C6.safe (own_lt (by omega)) (C3.safe (own_lt (by omega)) sf_pa1))
  refine oP 27 (v' := (.int 0)) X9 (w24 G) Via.refl f10 f11 (Or.inr ⟨(w25 G), rfl, rfl⟩) (w10 G) fd_1 rfl rfl d44_24 rfl (by omega) (Or.inl (by simp)) f13 ?_
  intro _ _ X12 W12 C12
  have := W12.size
  have f14 := f10.same W12
  refine oA 28 X12 d44_27 rfl rfl <| oA 29 X12 d44_28 rfl rfl <| oc 30 (v := 0) X12 d44_29 rfl (by decide) <| oi 32 X12 d44_30 rfl rfl ?_
  have f15 := (((F7.k0 K3).k0 K6).k0 K9).oth W12 (by omega)
  refine mS 35 1 X12 (rm_au141 G f15) (u48 G) all0 d44_32 rfl rfl rfl lr (by decide) all0 ?_
  rintro _ _ _ _ X16 ⟨xa1_17, xk1_18, rfl, q19, q20, q21, _⟩ K16 _ C16
  refine sk [.ref xa1_17, .ref pa1] rfl ?_
  have f23 := ((((F2.k0 K3).k0 K6).k0 K9).other W12 (Or.inr (sn1 G))).k0 K16
  have f24 := (f11.wr W12).keep K16
  have f26 := C16.safe (own_lt (by omega)) (C12.safe (own_lt (by omega)) f13)
  refine oP 38 (v' := (.ref xa1_17)) X16 (w22 G) Via.refl f23 f24 (Or.inr ⟨(w23 G), rfl, rfl⟩) (w10 G) fd_0 rfl rfl d44_35 rfl (by omega) (Or.inl (by simp)) f26 ?_
  intro _ _ X25 W25 C25
  have := W25.size
  have f27 := f23.same W25
  refine og 97 X25 d44_38 (by decide) ?_
  have f28 := f24.wr W25
  have f29 := (f14.k0 K16).other W25 (Or.inr (sn0 G))
  have f30 := q19.oth W25 (by omega)
  have f31 := q20.wr W25
  have f32 := C25.safe (own_lt (by omega)) q21
  exact oz X25 d44_97 rfl (by decide) (by decide) (fun _ CC => ⟨xa1_17, xk1_18, rfl, f28, f29, f27, f30, f31, (CC.safe (own_lt (by omega)) f32), by omega⟩)
theorem rm_au143 (G : GL l Z a0 zc dce kdce eed keed mroa mral mrul mrur) (F0 : ex1 Z h0 pa1) (F1 : fd1 Z h0 pa1 (.int 0)) (F2 : fd0 Z h0 pa1 .null) (F3 : ex6 Z h0 pa2) (F4 : fd10 Z h0 pa2 (.int 0)) (F5 : fd11 Z h0 pa2 (.int 6)) (F6 : fd9 Z h0 pa2 (.ref pa3)) (F7 : av0 Z h0 pa3 pk1 16 [.int 91, .int pi1, .int 44, .int 32, .int pi2, .int 93, i0, i0, i0, i0, i0, i0, i0, i0, i0, i0]) (ne : NE pa1 pa2 ∧ NE pa1 pa3 ∧ n0 ≤ pa1) : M43 l Z 4 1 6 87 #[.ref pa1, .ref pa2] h0 n0 [pa1] [pa1] (Q75 Z pa1 pi1 pi2 h0) := by
  refine mi B43 ef4 (hEW G) fun s X0 hsf0 n0le => ?_
  have := F0.l
  have := F3.l
  have := F7.l
  have sf_pa1 := hsf0 pa1 (by simp)
  refine oA 1 X0 d43_0 rfl rfl <| oA 2 X0 d43_1 rfl rfl <| o_aconstNull 3 X0 d43_2 rfl <| mP 6 0 X0 (rm_au142 G F0 F1 F2 F3 F4 F5 F6 F7 (by omega)) (u49 G) (sS (by omega) sf_pa1 all0) d43_3 rfl rfl rfl lr (by decide) (aI (by omega) (by simp) all0) ?_
  rintro _ _ _ _ X1 ⟨xa1_2, xk1_3, rfl, q4, q5, q6, q7, q8, q9, _⟩ _ _ _
  refine sk [] rfl ?_
  exact oz X1 d43_6 rfl (by decide) (by decide) (fun _ CC => ⟨xa1_2, xk1_3, rfl, q4, q5, q6, q7, q8, (CC.safe (own_lt (by omega)) q9), by omega⟩)
def Q76 (Z : State) (b1 b2 : Int32) (h0 : Heap) (v : Option Value) (h : Heap) (vm : Vm) : Prop := ∃ (xa1 : Addr) (xa2 : Addr) (xk1 : ClassId), v = some (.ref xa1) ∧ ex1 Z h xa1 ∧ fd1 Z h xa1 (.int 0) ∧ fd0 Z h xa1 (.ref xa2) ∧ Safe Z EL0 vm h xa1 ∧ av0 Z h xa2 xk1 6 [.int 91, .int b1, .int 44, .int 32, .int b2, .int 93] ∧ ex0 Z h xa2 ∧ Safe Z EL0 vm h xa2 ∧ h0.size ≤ xa1 ∧ h.size > xa1 ∧ h0.size ≤ xa2 ∧ h.size > xa2 ∧ NE xa1 xa2
theorem rm_au144 (G : GL l Z a0 zc dce kdce eed keed mroa mral mrul mrur) (F0 : ex6 Z h0 pa1) (F1 : fd10 Z h0 pa1 (.int 0)) (F2 : fd11 Z h0 pa1 (.int 6)) (F3 : fd9 Z h0 pa1 (.ref pa2)) (F4 : av0 Z h0 pa2 pk1 16 [.int 91, .int pi1, .int 44, .int 32, .int pi2, .int 93, i0, i0, i0, i0, i0, i0, i0, i0, i0, i0]) : M42 l Z 5 2 10 101 #[.ref pa1] h0 n0 [] [] (Q76 Z pi1 pi2 h0) := by
  refine mi B42 ef9 (hEW G) fun s X0 hsf0 n0le => ?_
  have l1 := F0.l
  have := F4.l
  refine o_new 3 X0 (w294 G) (w10 G) (w2 G) d42_0 rfl (by decide) (by decide) ?_
  intro _ h1 b1 X1 _ l1 E1 A1 D1 _ _ S1
  have f2 : fd0 Z h1 b1 .null := D1 (Or.inr (w23 G)) fd_0
  have f3 : fd1 Z h1 b1 (.int 0) := D1 (Or.inr (w25 G)) fd_1
  refine oD 4 X1 d42_3 rfl rfl <| oA 5 X1 d42_4 rfl rfl ?_
  have f4 := F0.ext E1
  have f5 := F1.ext E1
  have f6 := F2.ext E1
  have f7 := F3.ext E1
  have f8 := F4.ext E1
  refine mP 8 1 X1 (rm_au143 G A1 f3 f2 f4 f5 f6 f7 f8 (by omega)) (u50 G) (sS (by omega) S1 all0) d42_5 rfl rfl rfl lr (by decide) (aR (by omega) all0) ?_
  rintro _ _ _ _ X9 ⟨xa1_10, xk1_11, rfl, q12, q13, q14, q15, q16, q17, _⟩ _ _ C9
  refine sk [.ref b1] rfl ?_
  have f19 := C9.safe (own_lt (by omega)) S1
  exact oR X9 d42_8 rfl rfl rfl (by decide) (by decide) (fun _ CC => ⟨b1, xa1_10, xk1_11, rfl, q12, q13, q14, (CC.safe (own_lt (by omega)) f19), q15, q16, (CC.safe (own_lt (by omega)) q17), by omega⟩)
theorem rm_au145 (G : GL l Z a0 zc dce kdce eed keed mroa mral mrul mrur) (F0 : ex2 Z h0 pa1) (F1 : fd3 Z h0 pa1 (.ref pa2)) (F2 : fd2 Z h0 pa1 (.int 0)) (F3 : fd4 Z h0 pa1 (.int 2)) (F4 : av2 Z h0 pa2 pk1 2 [.ref pa3, .ref pa4]) (F5 : ex1 Z h0 pa3) (F6 : fd1 Z h0 pa3 (.int 0)) (F7 : fd0 Z h0 pa3 (.ref pa5)) (F8 : ex1 Z h0 pa4) (F9 : fd1 Z h0 pa4 (.int 0)) (F10 : fd0 Z h0 pa4 (.ref pa6)) (F11 : av0 Z h0 pa5 pk2 1 [.int pi1]) (F12 : av0 Z h0 pa6 pk3 1 [.int pi2]) (ne : NE pa1 pa3 ∧ NE pa1 pa4) : M38 l Z 6 5 34 113 #[.ref pa1] h0 n0 [] [] (Q76 Z pi1 pi2 h0) := by
  refine mi B38 ef17 (hEW G) fun s X0 hsf0 n0le => ?_
  have := F0.l
  have := F4.l
  have := F5.l
  have := F8.l
  have := F11.l
  have := F12.l
  refine oA 1 X0 d38_0 rfl rfl <| mV 4 0 X0 F0 (rm_au38 G F2) (u35 G) all0 d38_1 rfl rfl rfl lr (by decide) all0 ?_
  rintro _ _ _ _ X1 ⟨xa1_2, rfl, q3, q4, q5, q6, q7, _⟩ K1 _ _
  refine sk [.ref xa1_2] rfl <| oV 5 (l' := #[rr pa1, rr xa1_2, uu, uu]) X1 d38_4 rfl rfl rfl <| oA 6 X1 d38_5 rfl rfl ?_
  have f9 := F3.k0 K1
  refine mF 11 0 X1 q3 (rm_au80 G q4 q7 f9 (by decide)) (u36 G) all0 d38_6 rfl rfl rfl lr (by decide) all0 ?_
  rintro _ _ _ _ X10 rfl K10 _ _
  refine sk [.int 1] rfl <| oy 17 X10 d38_11 (by decide) ((if0 _ _).trans (feq (by decide)).2) <| o_new 20 X10 (w366 G) (w169 G) (w170 G) d38_17 rfl (by decide) (by decide) ?_
  intro _ h11 b11 X11 _ _ E11 A11 D11 _ _ _
  have f12 : fd9 Z h11 b11 .null := D11 (Or.inl (w183 G)) fd_0
  have f13 : fd10 Z h11 b11 (.int 0) := D11 (Or.inl (w185 G)) fd_1
  have f14 : fd11 Z h11 b11 (.int 0) := D11 (Or.inl (w207 G)) fd_2
  refine oD 21 X11 d38_20 rfl rfl <| mP 24 1 X11 (rm_au24 G A11 f13 f14 f12 (by omega)) (u60 G) all0 d38_21 rfl rfl rfl lr (by decide) (aR (by omega) all0) ?_
  rintro _ _ _ _ X15 ⟨_, _, rfl, q18, q19, q20, q21, q22, q23, q24, _⟩ K15 _ _
  refine sk [.ref b11] rfl <| oV 25 (l' := #[rr pa1, rr xa1_2, rr b11, uu]) X15 d38_24 rfl rfl rfl <| oA 26 X15 d38_25 rfl rfl <| ob 28 (v := 91) X15 d38_26 rfl (by decide) <| mV 31 0 X15 q18 (rm_au83 G q18 q19 q20 q21 q22 q23 (by omega)) (u64 G) (sS (by omega) q24 all0) d38_28 rfl rfl rfl lr (by decide) (aR (by omega) (aR (by omega) all0)) ?_
  rintro _ _ _ _ X26 ⟨rfl, q27, q28, q29, q30, q31, q32⟩ K26 _ C26
  refine sk [.ref b11] rfl <| o_pop 32 X26 d38_31 rfl rfl <| oA 33 X26 d38_32 rfl rfl ?_
  have f33 := (((q3.keep K10).ext E11).keep K15).keep K26
  have f34 := (((q4.k0 K10).ext E11).k1 K15 (by omega)).k2 K26 (by omega)
  have f35 := (((q5.k0 K10).ext E11).k1 K15 (by omega)).k2 K26 (by omega)
  have f36 := (((q6.k0 K10).ext E11).k1 K15 (by omega)).k2 K26 (by omega)
  have f37 := (((q7.k0 K10).ext E11).k1 K15 (by omega)).k2 K26 (by omega)
  have f38 := ((((F1.k0 K1).k0 K10).ext E11).k1 K15 (by omega)).k2 K26 (by omega)
  have f39 := ((((F2.k0 K1).k0 K10).ext E11).k1 K15 (by omega)).k2 K26 (by omega)
  have f40 := (((f9.k0 K10).ext E11).k1 K15 (by omega)).k2 K26 (by omega)
  have f41 := ((((F4.k0 K1).k0 K10).ext E11).k1 K15 (by omega)).k2 K26 (by omega)
  refine mF 38 0 X26 f33 (rm_au126 G f33 f34 f35 f36 f37 f38 f39 f40 f41 (by decide) (by omega)) (u66 G) all0 d38_33 rfl rfl rfl lr (by decide) (aR (by omega) all0) ?_
  rintro _ _ _ _ X42 ⟨rfl, q43, q44, q45, q46, q47⟩ K42 _ C42
  refine sk [.ref pa3] rfl <| oV 39 (l' := #[rr pa1, rr xa1_2, rr b11, rr pa3]) X42 d38_38 rfl rfl rfl <| oA 40 X42 d38_39 rfl rfl <| oA 41 X42 d38_40 rfl rfl <| oA 42 X42 d38_41 rfl rfl <| o_acmp 50 (same := false) X42 d38_42 rfl rfl (decide_eq_false (fun q => absurd (Value.ref.inj q) (own_ne (by omega)))) (by decide) (by decide) <| oA 51 X42 d38_50 rfl rfl ?_
  have f48 := q27.keep K42
  have f49 := q28.k1 K42 (by omega)
  have f50 := q29.k1 K42 (by omega)
  have f51 := q30.k1 K42 (by omega)
  have f52 := (((((F5.keep K1).keep K10).ext E11).keep K15).keep K26).keep K42
  have f53 := (((((F6.k0 K1).k0 K10).ext E11).k1 K15 (by omega)).k2 K26 (by omega)).k1 K42 (by omega)
  have f54 := (((((F7.k0 K1).k0 K10).ext E11).k1 K15 (by omega)).k2 K26 (by omega)).k1 K42 (by omega)
  have f55 := q31.k1 K42 (by omega)
  have f56 := q32.keep K42
  have f57 := (((((F11.k0 K1).k0 K10).ext E11).k1 K15 (by omega)).k2 K26 (by omega)).k1 K42 (by omega)
  have f58 := C42.safe (own_lt (by omega)) (C26.safe (own_lt (by omega)) q24)
  refine mV 54 0 X42 f48 (rm_au88 G f48 f49 f50 f51 f52 f53 f54 f55 f56 f57 (by omega)) (u68 G) (sS (by omega) f58 all0) d38_51 rfl rfl rfl lr (by decide) (aR (by omega) (aR (by omega) all0)) ?_
  rintro _ _ _ _ X59 ⟨rfl, q60, q61, q62, q63, q64, q65⟩ K59 _ C59
  refine sk [.ref b11] rfl <| o_pop 55 X59 d38_54 rfl rfl <| oA 56 X59 d38_55 rfl rfl ?_
  have f66 := q44.k2 K59 (by omega)
  have f67 := q47.k2 K59 (by omega)
  have f68 := (f40.k1 K42 (by omega)).k2 K59 (by omega)
  have f69 := q43.keep K59
  refine mF 61 0 X59 f69 (rm_au80 G f66 f67 f68 (by decide)) (u36 G) all0 d38_56 rfl rfl rfl lr (by decide) all0 ?_
  rintro _ _ _ _ X70 rfl K70 _ C70
  refine sk [.int 1] rfl <| oy 74 X70 d38_61 (by decide) ((if0 _ _).trans (feq (by decide)).2) <| oA 75 X70 d38_74 rfl rfl <| ob 77 (v := 44) X70 d38_75 rfl (by decide) ?_
  have f71 := q60.keep K70
  have f72 := q61.k0 K70
  have f73 := q62.k0 K70
  have f74 := q63.k0 K70
  have f75 := q64.k0 K70
  have f76 := q65.keep K70
  have f77 := C70.safe (own_lt (by omega)) (C59.safe (own_lt (by omega)) f58)
  refine mV 80 0 X70 f71 (rm_au128 G f71 f72 f73 f74 f75 f76 (by omega)) (u64 G) (sS (by omega) f77 all0) d38_77 rfl rfl rfl lr (by decide) (aR (by omega) (aR (by omega) all0)) ?_
  rintro _ _ _ _ X78 ⟨rfl, q79, q80, q81, q82, q83, q84⟩ K78 _ C78
  refine sk [.ref b11] rfl <| ob 82 (v := 32) X78 d38_80 rfl (by decide) ?_
  have f85 := C78.safe (own_lt (by omega)) f77
  refine mV 85 0 X78 q79 (rm_au130 G q79 q80 q81 q82 q83 q84 (by omega)) (u64 G) (sS (by omega) f85 all0) d38_82 rfl rfl rfl lr (by decide) (aR (by omega) (aR (by omega) all0)) ?_
  rintro _ _ _ _ X86 ⟨rfl, q87, q88, q89, q90, q91, q92⟩ K86 _ C86
  refine sk [.ref b11] rfl <| o_pop 86 X86 d38_85 rfl rfl <| og 32 X86 d38_86 (by decide) <| oA 33 X86 d38_32 rfl rfl ?_
  have f93 := ((f69.keep K70).keep K78).keep K86
  have f94 := ((f66.k0 K70).k2 K78 (by omega)).k2 K86 (by omega)
  have f95 := (((q45.k2 K59 (by omega)).k0 K70).k2 K78 (by omega)).k2 K86 (by omega)
  have f96 := (((q46.k2 K59 (by omega)).k0 K70).k2 K78 (by omega)).k2 K86 (by omega)
  have f97 := ((f67.k0 K70).k2 K78 (by omega)).k2 K86 (by omega)
  have f98 := ((((f38.k1 K42 (by omega)).k2 K59 (by omega)).k0 K70).k2 K78 (by omega)).k2 K86 (by omega)
  have f99 := ((((f39.k1 K42 (by omega)).k2 K59 (by omega)).k0 K70).k2 K78 (by omega)).k2 K86 (by omega)
  have f100 := ((f68.k0 K70).k2 K78 (by omega)).k2 K86 (by omega)
  have f101 := ((((f41.k1 K42 (by omega)).k2 K59 (by omega)).k0 K70).k2 K78 (by omega)).k2 K86 (by omega)
  refine mF 38 0 X86 f93 (rm_au132 G f93 f94 f95 f96 f97 f98 f99 f100 f101 (by omega)) (u66 G) all0 d38_33 rfl rfl rfl lr (by decide) (aR (by omega) all0) ?_
  rintro _ _ _ _ X102 ⟨rfl, q103, q104, _, _, q107⟩ K102 _ C102
  refine sk [.ref pa4] rfl <| oV 39 (l' := #[rr pa1, rr xa1_2, rr b11, rr pa4]) X102 d38_38 rfl rfl rfl <| oA 40 X102 d38_39 rfl rfl <| oA 41 X102 d38_40 rfl rfl <| oA 42 X102 d38_41 rfl rfl <| o_acmp 50 (same := false) X102 d38_42 rfl rfl (decide_eq_false (fun q => absurd (Value.ref.inj q) (own_ne (by omega)))) (by decide) (by decide) <| oA 51 X102 d38_50 rfl rfl ?_
  have f108 := q87.keep K102
  have f109 := q88.k1 K102 (by omega)
  have f110 := q89.k1 K102 (by omega)
  have f111 := q90.k1 K102 (by omega)
  have f112 := ((((((((((F8.keep K1).keep K10).ext E11).keep K15).keep K26).keep K42).keep K59).keep K70).keep K78).keep K86).keep K102
  have f113 := ((((((((((F9.k0 K1).k0 K10).ext E11).k1 K15 (by omega)).k2 K26 (by omega)).k1 K42 (by omega)).k2 K59 (by omega)).k0 K70).k2 K78 (by omega)).k2 K86 (by omega)).k1 K102 (by omega)
  have f114 := ((((((((((F10.k0 K1).k0 K10).ext E11).k1 K15 (by omega)).k2 K26 (by omega)).k1 K42 (by omega)).k2 K59 (by omega)).k0 K70).k2 K78 (by omega)).k2 K86 (by omega)).k1 K102 (by omega)
  have f115 := q91.k1 K102 (by omega)
  have f116 := q92.keep K102
  have f117 := ((((((((((F12.k0 K1).k0 K10).ext E11).k1 K15 (by omega)).k2 K26 (by omega)).k1 K42 (by omega)).k2 K59 (by omega)).k0 K70).k2 K78 (by omega)).k2 K86 (by omega)).k1 K102 (by omega)
  have f118 := C102.safe (own_lt (by omega)) (C86.safe (own_lt (by omega)) f85)
  refine mV 54 0 X102 f108 (rm_au137 G f108 f109 f110 f111 f112 f113 f114 f115 f116 f117 (by omega)) (u68 G) (sS (by omega) f118 all0) d38_51 rfl rfl rfl lr (by decide) (aR (by omega) (aR (by omega) all0)) ?_
  rintro _ _ _ _ X119 ⟨rfl, q120, q121, q122, q123, q124, q125⟩ K119 _ C119
  refine sk [.ref b11] rfl <| o_pop 55 X119 d38_54 rfl rfl <| oA 56 X119 d38_55 rfl rfl ?_
  have f126 := q104.k2 K119 (by omega)
  have f127 := q107.k2 K119 (by omega)
  have f128 := (f100.k1 K102 (by omega)).k2 K119 (by omega)
  have f129 := q103.keep K119
  refine mF 61 0 X119 f129 (rm_au39 G f126 f127 f128 (by decide)) (u36 G) all0 d38_56 rfl rfl rfl lr (by decide) all0 ?_
  rintro _ _ _ _ X130 rfl K130 _ C130
  refine sk [i0] rfl <| on 64 X130 d38_61 rfl ((if0 _ _).trans (teq (by decide)).2) <| oA 65 X130 d38_64 rfl rfl <| ob 67 (v := 93) X130 d38_65 rfl (by decide) ?_
  have f131 := q120.keep K130
  have f132 := q121.k0 K130
  have f133 := q122.k0 K130
  have f134 := q123.k0 K130
  have f135 := q124.k0 K130
  have f136 := q125.keep K130
  have f137 := C130.safe (own_lt (by omega)) (C119.safe (own_lt (by omega)) f118)
  refine mV 70 0 X130 f131 (rm_au139 G f131 f132 f133 f134 f135 f136 (by omega)) (u64 G) (sS (by omega) f137 all0) d38_67 rfl rfl rfl lr (by decide) (aR (by omega) (aR (by omega) all0)) ?_
  rintro _ _ _ _ X138 ⟨rfl, q139, q140, q141, q142, q143, _⟩ _ _ _
  refine sk [.ref b11] rfl <| mV 73 0 X138 q139 (rm_au144 G q139 q140 q141 q142 q143) (u69 G) all0 d38_70 rfl rfl rfl lr (by decide) all0 ?_
  rintro _ _ _ _ X145 ⟨xa1_146, xa2_147, xk1_148, rfl, q149, q150, q151, q152, q153, q154, q155, _⟩ _ _ _
  refine sk [.ref xa1_146] rfl ?_
  exact oR X145 d38_73 rfl rfl rfl (by decide) (by decide) (fun _ CC => ⟨xa1_146, xa2_147, xk1_148, rfl, q149, q150, q151, (CC.safe (own_lt (by omega)) q152), q153, q154, (CC.safe (own_lt (by omega)) q155), by omega⟩)
theorem rm_au146 (G : GL l Z a0 zc dce kdce eed keed mroa mral mrul mrur) (F0 : fd7 Z h0 pa1 (.ref pa2)) (F1 : ex2 Z h0 pa2) (F2 : fd3 Z h0 pa2 (.ref pa3)) (F3 : fd2 Z h0 pa2 (.int 0)) (F4 : fd4 Z h0 pa2 (.int 2)) (F5 : av2 Z h0 pa3 pk1 2 [.ref pa4, .ref pa5]) (F6 : ex1 Z h0 pa4) (F7 : fd1 Z h0 pa4 (.int 0)) (F8 : fd0 Z h0 pa4 (.ref pa6)) (F9 : ex1 Z h0 pa5) (F10 : fd1 Z h0 pa5 (.int 0)) (F11 : fd0 Z h0 pa5 (.ref pa7)) (F12 : av0 Z h0 pa6 pk2 1 [.int pi1]) (F13 : av0 Z h0 pa7 pk3 1 [.int pi2]) (ne : NE pa2 pa4 ∧ NE pa2 pa5) : M37 l Z 7 5 34 128 #[.ref pa1] h0 n0 [] [] (Q76 Z pi1 pi2 h0) := by
  refine mi B37 ef9 (hEW G) fun s X0 hsf0 n0le => ?_
  have := F0.l
  have := F1.l
  have := F5.l
  have := F6.l
  have := F9.l
  have := F12.l
  have := F13.l
  refine oA 1 X0 d37_0 rfl rfl <| oF 4 X0 (w157 G) Via.refl F0 d37_1 rfl ?_
  intro _ X2
  refine m_ifaceUp 9 0 X2 F1 (rm_au145 G F1 F2 F3 F4 F5 F6 F7 F8 F9 F10 F11 F12 F13 (by omega)) (u37 G) all0 d37_4 rfl rfl rfl lr (by decide) all0 ?_
  rintro _ _ _ _ X3 ⟨xa1_4, xa2_5, xk1_6, rfl, q7, q8, q9, q10, q11, q12, q13, _⟩ _ _ _
  refine sk [.ref xa1_4] rfl ?_
  exact oR X3 d37_9 rfl rfl rfl (by decide) (by decide) (fun _ CC => ⟨xa1_4, xa2_5, xk1_6, rfl, q7, q8, q9, (CC.safe (own_lt (by omega)) q10), q11, q12, (CC.safe (own_lt (by omega)) q13), by omega⟩)
theorem rm_au147 (G : GL l Z a0 zc dce kdce eed keed mroa mral mrul mrur) (F0 : ex4 Z h0 pa1) (F1 : fd7 Z h0 pa1 (.ref pa2)) (F2 : ex2 Z h0 pa2) (F3 : fd3 Z h0 pa2 (.ref pa3)) (F4 : fd2 Z h0 pa2 (.int 0)) (F5 : fd4 Z h0 pa2 (.int 2)) (F6 : av2 Z h0 pa3 pk1 2 [.ref pa4, .ref pa5]) (F7 : ex1 Z h0 pa4) (F8 : fd1 Z h0 pa4 (.int 0)) (F9 : fd0 Z h0 pa4 (.ref pa6)) (F10 : ex1 Z h0 pa5) (F11 : fd1 Z h0 pa5 (.int 0)) (F12 : fd0 Z h0 pa5 (.ref pa7)) (F13 : av0 Z h0 pa6 pk2 1 [.int pi1]) (F14 : av0 Z h0 pa7 pk3 1 [.int pi2]) (ne : NE pa2 pa4 ∧ NE pa2 pa5) : M36 l Z 8 5 34 140 #[.ref pa1] h0 n0 [] [] (Q76 Z pi1 pi2 h0) := by
  refine mi B36 ef9 (hEW G) fun s X0 hsf0 n0le => ?_
  have := F0.l
  have := F2.l
  have := F6.l
  have := F7.l
  have := F10.l
  have := F13.l
  have := F14.l
  refine oA 1 X0 d36_0 rfl rfl <| ifnonnullYesJ 10 X0 d36_1 (by decide) <| oA 11 X0 d36_10 rfl rfl <| mV 14 0 X0 F0 (rm_au146 G F1 F2 F3 F4 F5 F6 F7 F8 F9 F10 F11 F12 F13 F14 (by omega)) (u38 G) all0 d36_11 rfl rfl rfl lr (by decide) all0 ?_
  rintro _ _ _ _ X1 ⟨xa1_2, xa2_3, xk1_4, rfl, q5, q6, q7, q8, q9, q10, q11, _⟩ _ _ _
  refine sk [.ref xa1_2] rfl ?_
  exact oR X1 d36_14 rfl rfl rfl (by decide) (by decide) (fun _ CC => ⟨xa1_2, xa2_3, xk1_4, rfl, q5, q6, q7, (CC.safe (own_lt (by omega)) q8), q9, q10, (CC.safe (own_lt (by omega)) q11), by omega⟩)
def Q77 (Z : State) (h0 : Heap) (v : Option Value) (h : Heap) (vm : Vm) : Prop := v = some (.int 6)
theorem rm_au148 (G : GL l Z a0 zc dce kdce eed keed mroa mral mrul mrur) (F0 : ex1 Z h0 pa1) (F1 : fd1 Z h0 pa1 (.int 0)) (F2 : fd0 Z h0 pa1 (.ref pa2)) (F3 : av0 Z h0 pa2 pk1 6 ps_pa2) : M29 l Z 1 0 0 13 #[.ref pa1] h0 n0 [] [] (Q77 Z  h0) := by
  refine mi B29 ef9 (hEW G) fun s X0 hsf0 n0le => ?_
  have := F0.l
  have := F3.l
  refine oA 1 X0 d29_0 rfl rfl <| oF 4 X0 (w22 G) Via.refl F2 d29_1 rfl ?_
  intro _ X2
  refine oL 5 X2 F3 d29_4 rfl <| oA 6 X2 d29_5 rfl rfl <| mV 9 1 X2 F0 (rm_au25 G F1) (u25 G) all0 d29_6 rfl rfl rfl lr (by decide) all0 ?_
  rintro _ _ _ _ X3 rfl _ _ _
  refine sk [i0, .int 6] rfl <| o_ishr 10 (v := 6) X3 d29_9 rfl (by decide) ?_
  exact o_iret X3 d29_10 rfl (by decide) (by decide) (fun _ CC => rfl)
def Q78 (Z : State) (b1 : Addr) (b2 : ClassId) (b3 b4 b5 b6 b7 b8 b9 : Int32) (h0 : Heap) (v : Option Value) (h : Heap) (vm : Vm) : Prop := v = none ∧ av0 Z h b1 b2 16 [.int b3, .int 32, .int b4, .int b5, .int b6, .int b7, .int b8, .int b9, i0, i0, i0, i0, i0, i0, i0, i0] ∧ ex0 Z h b1
theorem rm_au149 (G : GL l Z a0 zc dce kdce eed keed mroa mral mrul mrur) (F0 : ex1 Z h0 pa1) (F1 : fd1 Z h0 pa1 (.int 0)) (F2 : fd0 Z h0 pa1 (.ref pa3)) (F3 : av0 Z h0 pa2 pk1 16 [.int pi1, .int 32, i0, i0, i0, i0, i0, i0, i0, i0, i0, i0, i0, i0, i0, i0]) (F4 : ex0 Z h0 pa2) (F5 : av0 Z h0 pa3 pk2 6 [.int pi2, .int pi3, .int pi4, .int pi5, .int pi6, .int pi7]) (ne : NE pa1 pa2 ∧ NE pa2 pa3 ∧ n0 ≤ pa2) : M34 l Z 1 0 0 40 #[.ref pa1, .ref pa2, .int 2, i0] h0 n0 [pa2] [pa2] (Q78 Z pa2 pk1 pi1 pi2 pi3 pi4 pi5 pi6 pi7 h0) := by
  refine mi B34 ef16 (hEW G) fun s X0 hsf0 n0le => ?_
  have := F0.l
  have := F3.l
  have := F5.l
  have sf_pa2 := hsf0 pa2 (by simp)
  refine oA 1 X0 d34_0 rfl rfl <| mV 4 0 X0 F0 (rm_au25 G F1) (u25 G) all0 d34_1 rfl rfl rfl lr (by decide) all0 ?_
  rintro _ _ _ _ X1 rfl K1 _ C1
  refine sk [i0] rfl <| oI 5 X1 d34_4 rfl rfl <| oN 8 X1 d34_5 rfl (teq (by decide)).2 <| oA 9 X1 d34_8 rfl rfl ?_
  have f2 := F2.k0 K1
  refine oF 12 X1 (w22 G) Via.refl f2 d34_9 rfl ?_
  intro _ X4
  refine oc 13 (v := 0) X4 d34_12 rfl (by decide) <| oA 14 X4 d34_13 rfl rfl <| oI 15 X4 d34_14 rfl rfl <| oI 16 X4 d34_15 rfl rfl <| o_ishl 17 (v := 2) X4 d34_16 rfl (by decide) <| oA 18 X4 d34_17 rfl rfl <| oF 21 X4 (w22 G) Via.refl f2 d34_18 rfl ?_
  intro _ X6
  have f7 := F5.k0 K1
  refine oL 22 X6 f7 d34_21 rfl ?_
  have f8 := F3.k0 K1
  have f9 := C1.safe (own_lt (by omega)) sf_pa2
  refine o_cp 25 (us := [.int pi2, .int pi3, .int pi4, .int pi5, .int pi6, .int pi7]) (vr := [.int pi1, .int 32, .int pi2, .int pi3, .int pi4, .int pi5, .int pi6, .int pi7, i0, i0, i0, i0, i0, i0, i0, i0]) (W := 0) X6 (w229 G) (w119 G) (w117 G) (w118 G) f7 f8 (Or.inl ⟨rfl, rfl⟩) (by decide) (by decide) (by decide) (by decide) (by decide) rfl (Nat.le_of_ble_eq_true rfl) rfl d34_22 rfl rfl (by decide) (Nat.le_of_eq rfl) (by decide) (by omega) (Or.inl (by simp)) f9 ?_
  intro _ _ X10 K10 _ V10
  have := K10.1
  refine og 43 X10 d34_25 (by decide) ?_
  have f11 := (F4.keep K1).keep K10
  exact oz X10 d34_43 rfl (by decide) (by decide) (fun _ CC => ⟨rfl, V10, f11⟩)
theorem rm_au150 (G : GL l Z a0 zc dce kdce eed keed mroa mral mrul mrur) (F0 : ex6 Z h0 pa1) (F1 : fd10 Z h0 pa1 (.int 0)) (F2 : fd9 Z h0 pa1 (.ref pa3)) (F3 : ex1 Z h0 pa2) (F4 : fd1 Z h0 pa2 (.int 0)) (F5 : fd0 Z h0 pa2 (.ref pa4)) (F6 : av0 Z h0 pa3 pk1 16 [.int pi1, .int 32, i0, i0, i0, i0, i0, i0, i0, i0, i0, i0, i0, i0, i0, i0]) (F7 : ex0 Z h0 pa3) (F8 : av0 Z h0 pa4 pk2 6 [.int pi2, .int pi3, .int pi4, .int pi5, .int pi6, .int pi7]) (ne : NE pa1 pa3 ∧ NE pa2 pa3 ∧ NE pa3 pa4 ∧ n0 ≤ pa3) : M32 l Z 2 0 0 55 #[.ref pa1, .int 2, .ref pa2] h0 n0 [pa3] [pa3] (Q78 Z pa3 pk1 pi1 pi2 pi3 pi4 pi5 pi6 pi7 h0) := by
  refine mi B32 ef15 (hEW G) fun s X0 hsf0 n0le => ?_
  have := F0.l
  have := F3.l
  have := F6.l
  have := F8.l
  have sf_pa3 := hsf0 pa3 (by simp)
  refine oA 1 X0 d32_0 rfl rfl <| oA 2 X0 d32_1 rfl rfl <| mV 5 0 X0 F0 (rm_au28 G F1 F3 F4) (u29 G) all0 d32_2 rfl rfl rfl lr (by decide) all0 ?_
  rintro _ _ _ _ X1 rfl K1 _ C1
  refine sk [] rfl <| oA 6 X1 d32_5 rfl rfl <| oA 7 X1 d32_6 rfl rfl ?_
  have f2 := F2.k0 K1
  refine oF 10 X1 (w182 G) Via.refl f2 d32_7 rfl ?_
  intro _ X4
  refine oI 11 X4 d32_10 rfl rfl <| oA 12 X4 d32_11 rfl rfl ?_
  have f5 := F1.k0 K1
  refine oF 15 X4 (w184 G) Via.refl f5 d32_12 rfl ?_
  intro _ X7
  have f8 := F3.keep K1
  have f9 := F4.k0 K1
  have f10 := F5.k0 K1
  have f11 := F6.k0 K1
  have f12 := F7.keep K1
  have f13 := F8.k0 K1
  have f14 := C1.safe (own_lt (by omega)) sf_pa3
  refine mV 18 0 X7 f8 (rm_au149 G f8 f9 f10 f11 f12 f13 (by omega)) (u30 G) (sS (by omega) f14 all0) d32_15 rfl rfl rfl lr (by decide) (aI (by omega) (by simp) all0) ?_
  rintro _ _ _ _ X15 ⟨rfl, q16, q17⟩ _ _ _
  refine sk [] rfl ?_
  exact oz X15 d32_18 rfl (by decide) (by decide) (fun _ CC => ⟨rfl, q16, q17⟩)
def Q79 (Z : State) (b1 b2 : Addr) (b3 : ClassId) (b4 b5 b6 b7 b8 b9 b10 : Int32) (h0 : Heap) (v : Option Value) (h : Heap) (vm : Vm) : Prop := v = some (.ref b1) ∧ ex6 Z h b1 ∧ fd10 Z h b1 (.int 0) ∧ fd11 Z h b1 (.int 8) ∧ fd9 Z h b1 (.ref b2) ∧ av0 Z h b2 b3 16 [.int b4, .int 32, .int b5, .int b6, .int b7, .int b8, .int b9, .int b10, i0, i0, i0, i0, i0, i0, i0, i0] ∧ ex0 Z h b2
theorem rm_au151 (G : GL l Z a0 zc dce kdce eed keed mroa mral mrul mrur) (F0 : ex6 Z h0 pa1) (F1 : fd10 Z h0 pa1 (.int 0)) (F2 : fd11 Z h0 pa1 (.int 2)) (F3 : fd9 Z h0 pa1 (.ref pa3)) (F4 : ex1 Z h0 pa2) (F5 : fd1 Z h0 pa2 (.int 0)) (F6 : fd0 Z h0 pa2 (.ref pa4)) (F7 : av0 Z h0 pa3 pk1 16 [.int pi1, .int 32, i0, i0, i0, i0, i0, i0, i0, i0, i0, i0, i0, i0, i0, i0]) (F8 : ex0 Z h0 pa3) (F9 : av0 Z h0 pa4 pk2 6 [.int pi2, .int pi3, .int pi4, .int pi5, .int pi6, .int pi7]) (ne : NE pa1 pa2 ∧ NE pa1 pa3 ∧ NE pa1 pa4 ∧ NE pa2 pa3 ∧ NE pa3 pa4 ∧ n0 ≤ pa1 ∧ n0 ≤ pa3) : M28 l Z 3 0 0 69 #[.ref pa1, .ref pa2] h0 n0 [pa1, pa3] [pa3] (Q79 Z pa1 pa3 pk1 pi1 pi2 pi3 pi4 pi5 pi6 pi7 h0) := by
  refine mi B28 ef11 (hEW G) fun s X0 hsf0 n0le => ?_
  have := F0.l
  have := F4.l
  have := F7.l
  have := F9.l
  have sf_pa3 := hsf0 pa3 (by simp)
  refine oA 1 X0 d28_0 rfl rfl <| ifnonnullYesJ 9 X0 d28_1 (by decide) <| oA 10 X0 d28_9 rfl rfl <| mV 13 0 X0 F4 (rm_au148 G F4 F5 F6 F9) (u26 G) all0 d28_10 rfl rfl rfl lr (by decide) all0 ?_
  rintro _ _ _ _ X1 rfl K1 _ C1
  refine sk [.int 6] rfl <| oT 14 (l' := #[rr pa1, rr pa2, ii 6]) X1 d28_13 rfl rfl <| oA 15 X1 d28_14 rfl rfl <| oA 16 X1 d28_15 rfl rfl ?_
  have f2 := F2.k0 K1
  refine oF 19 X1 (w206 G) Via.refl f2 d28_16 rfl ?_
  intro _ X4
  refine oI 20 X4 d28_19 rfl rfl <| o_iadd 21 (v := 8) X4 d28_20 rfl (by decide) ?_
  have f5 := F1.k0 K1
  have f6 := F3.k0 K1
  have f7 := F7.k0 K1
  have f8 := F0.keep K1
  refine mV 24 0 X4 f8 (rm_au27 G f5 f6 f7 (by decide)) (u27 G) all0 d28_21 rfl rfl rfl lr (by decide) all0 ?_
  rintro _ _ _ _ X9 rfl K9 _ C9
  refine sk [] rfl <| oA 25 X9 d28_24 rfl rfl <| oA 26 X9 d28_25 rfl rfl ?_
  have f10 := f2.k0 K9
  refine oF 29 X9 (w206 G) Via.refl f10 d28_26 rfl ?_
  intro _ X12
  refine oA 30 X12 d28_29 rfl rfl ?_
  have f13 := f8.keep K9
  have f14 := f5.k0 K9
  have f15 := f6.k0 K9
  have f16 := (F4.keep K1).keep K9
  have f17 := (F5.k0 K1).k0 K9
  have f18 := (F6.k0 K1).k0 K9
  have f19 := f7.k0 K9
  have f20 := (F8.keep K1).keep K9
  have f21 := (F9.k0 K1).k0 K9
  have f22 := C9.safe (own_lt (by omega)) (C1.safe (own_lt (by omega)) sf_pa3)
  refine mV 33 0 X12 f13 (rm_au150 G f13 f14 f15 f16 f17 f18 f19 f20 f21 (by omega)) (u31 G) (sS (by omega) f22 all0) d28_30 rfl rfl rfl lr (by decide) (aI (by omega) (by simp) all0) ?_
  rintro _ _ _ _ X23 ⟨rfl, q24, q25⟩ K23 _ _
  refine sk [] rfl <| oA 34 X23 d28_33 rfl rfl <| oD 35 X23 d28_34 rfl rfl ?_
  have f26 := f10.k1 K23 (by omega)
  refine oF 38 X23 (w206 G) Via.refl f26 d28_35 rfl ?_
  intro _ X28
  refine oI 39 X28 d28_38 rfl rfl <| o_iadd 40 (v := 8) X28 d28_39 rfl (by decide) ?_
  have f29 := f13.keep K23
  refine oP 43 (v' := (.int 8)) X28 (w206 G) Via.refl f26 f29 (Or.inl (w207 G)) (w169 G) fd_2 rfl rfl d28_40 rfl (by omega) (Or.inl (by simp)) (sx X28 f29 nc5) ?_
  intro _ _ X30 W30 _
  have := W30.size
  have f31 := f26.same W30
  refine oA 44 X30 d28_43 rfl rfl ?_
  have f32 := f29.wr W30
  have f33 := (f14.k1 K23 (by omega)).other W30 (Or.inr (sn16 G))
  have f34 := (f15.k1 K23 (by omega)).other W30 (Or.inr (sn17 G))
  have f35 := q24.oth W30 (by omega)
  have f36 := q25.wr W30
  exact oR X30 d28_44 rfl rfl rfl (by decide) (by decide) (fun _ CC => ⟨rfl, f32, f33, f31, f34, f35, f36⟩)
theorem rm_au152 (G : GL l Z a0 zc dce kdce eed keed mroa mral mrul mrur) (F0 : ex6 Z h0 pa1) (F1 : fd10 Z h0 pa1 (.int 0)) (F2 : fd11 Z h0 pa1 (.int 2)) (F3 : fd9 Z h0 pa1 (.ref pa3)) (F4 : ex1 Z h0 pa2) (F5 : fd1 Z h0 pa2 (.int 0)) (F6 : fd0 Z h0 pa2 (.ref pa4)) (F7 : av0 Z h0 pa3 pk1 16 [.int pi1, .int 32, i0, i0, i0, i0, i0, i0, i0, i0, i0, i0, i0, i0, i0, i0]) (F8 : ex0 Z h0 pa3) (F9 : av0 Z h0 pa4 pk2 6 [.int pi100, .int pi2, .int pi101, .int pi102, .int pi3, .int pi103]) (ne : NE pa1 pa2 ∧ NE pa1 pa3 ∧ NE pa1 pa4 ∧ NE pa2 pa3 ∧ NE pa3 pa4 ∧ n0 ≤ pa1 ∧ n0 ≤ pa3) : M27 l Z 4 0 0 83 #[.ref pa1, .ref pa2] h0 n0 [pa1, pa3] [pa3] (Q79 Z pa1 pa3 pk1 pi1 pi100 pi2 pi101 pi102 pi3 pi103 h0) := by
  refine mi B27 ef4 (hEW G) fun s X0 hsf0 n0le => ?_
  have := F0.l
  have := F4.l
  have := F7.l
  have := F9.l
  have sf_pa3 := hsf0 pa3 (by simp)
  refine oA 1 X0 d27_0 rfl rfl <| oA 2 X0 d27_1 rfl rfl <| mU 5 0 X0 F0 (rm_au151 G F0 F1 F2 F3 F4 F5 F6 F7 F8 F9 (by omega)) (u32 G) (sS (by omega) sf_pa3 all0) d27_2 rfl rfl rfl lr (by decide) (aI (by omega) (by simp) (aI (by omega) (by simp) all0)) ?_
  rintro _ _ _ _ X1 ⟨rfl, q2, q3, q4, q5, q6, q7⟩ _ _ _
  refine sk [.ref pa1] rfl <| o_pop 6 X1 d27_5 rfl rfl <| oA 7 X1 d27_6 rfl rfl ?_
  exact oR X1 d27_7 rfl rfl rfl (by decide) (by decide) (fun _ CC => ⟨rfl, q2, q3, q4, q5, q6, q7⟩)
def Q80 (Z : State) (b1 b2 : Addr) (b3 : ClassId) (b4 b5 b6 : Int32) (h0 : Heap) (v : Option Value) (h : Heap) (vm : Vm) : Prop := v = some (.ref b1) ∧ ex6 Z h b1 ∧ fd10 Z h b1 (.int 0) ∧ fd11 Z h b1 (.int 8) ∧ fd9 Z h b1 (.ref b2) ∧ av0 Z h b2 b3 16 [.int b4, .int 32, .int 91, .int b5, .int 44, .int 32, .int b6, .int 93, i0, i0, i0, i0, i0, i0, i0, i0] ∧ ex0 Z h b2
theorem rm_au153 (G : GL l Z a0 zc dce kdce eed keed mroa mral mrul mrur) (F0 : ex6 Z h0 pa1) (F1 : fd10 Z h0 pa1 (.int 0)) (F2 : fd11 Z h0 pa1 (.int 2)) (F3 : fd9 Z h0 pa1 (.ref pa3)) (F4 : ex4 Z h0 pa2) (F5 : fd7 Z h0 pa2 (.ref pa4)) (F6 : av0 Z h0 pa3 pk1 16 [.int pi1, .int 32, i0, i0, i0, i0, i0, i0, i0, i0, i0, i0, i0, i0, i0, i0]) (F7 : ex0 Z h0 pa3) (F8 : ex2 Z h0 pa4) (F9 : fd3 Z h0 pa4 (.ref pa5)) (F10 : fd2 Z h0 pa4 (.int 0)) (F11 : fd4 Z h0 pa4 (.int 2)) (F12 : av2 Z h0 pa5 pk2 2 [.ref pa6, .ref pa7]) (F13 : ex1 Z h0 pa6) (F14 : fd1 Z h0 pa6 (.int 0)) (F15 : fd0 Z h0 pa6 (.ref pa8)) (F16 : ex1 Z h0 pa7) (F17 : fd1 Z h0 pa7 (.int 0)) (F18 : fd0 Z h0 pa7 (.ref pa9)) (F19 : av0 Z h0 pa8 pk3 1 [.int pi2]) (F20 : av0 Z h0 pa9 pk4 1 [.int pi3]) (ne : NE pa1 pa2 ∧ NE pa1 pa3 ∧ NE pa1 pa4 ∧ NE pa1 pa5 ∧ NE pa1 pa6 ∧ NE pa1 pa7 ∧ NE pa1 pa8 ∧ NE pa1 pa9 ∧ NE pa2 pa3 ∧ NE pa3 pa4 ∧ NE pa3 pa5 ∧ NE pa3 pa6 ∧ NE pa3 pa7 ∧ NE pa3 pa8 ∧ NE pa3 pa9 ∧ NE pa4 pa6 ∧ NE pa4 pa7 ∧ n0 ≤ pa1 ∧ n0 ≤ pa3) : M35 l Z 9 5 34 153 #[.ref pa1, .ref pa2] h0 n0 [pa1, pa3] [pa3] (Q80 Z pa1 pa3 pk1 pi1 pi2 pi3 h0) := by
  refine mi B35 ef4 (hEW G) fun s X0 hsf0 n0le => ?_
  have := F0.l
  have := F4.l
  have := F6.l
  have := F8.l
  have := F12.l
  have := F13.l
  have := F16.l
  have := F19.l
  have := F20.l
  have sf_pa3 := hsf0 pa3 (by simp)
  refine oA 1 X0 d35_0 rfl rfl <| oA 2 X0 d35_1 rfl rfl <| mS 5 1 X0 (rm_au147 G F4 F5 F8 F9 F10 F11 F12 F13 F14 F15 F16 F17 F18 F19 F20 (by omega)) (u39 G) all0 d35_2 rfl rfl rfl lr (by decide) all0 ?_
  rintro _ _ _ _ X1 ⟨xa1_2, _, _, rfl, q5, q6, q7, _, q9, _, _, _⟩ K1 _ C1
  refine sk [.ref xa1_2, .ref pa1] rfl ?_
  have f13 := F0.keep K1
  have f14 := F1.k0 K1
  have f15 := F2.k0 K1
  have f16 := F3.k0 K1
  have f17 := F6.k0 K1
  have f18 := F7.keep K1
  have f19 := C1.safe (own_lt (by omega)) sf_pa3
  refine mV 8 0 X1 f13 (rm_au152 G f13 f14 f15 f16 q5 q6 q7 f17 f18 q9 (by omega)) (u40 G) (sS (by omega) f19 all0) d35_5 rfl rfl rfl lr (by decide) (aI (by omega) (by simp) (aI (by omega) (by simp) all0)) ?_
  rintro _ _ _ _ X20 ⟨rfl, q21, q22, q23, q24, q25, q26⟩ _ _ _
  refine sk [.ref pa1] rfl ?_
  exact oR X20 d35_8 rfl rfl rfl (by decide) (by decide) (fun _ CC => ⟨rfl, q21, q22, q23, q24, q25, q26⟩)
def Q81 (Z : State) (b1 b2 b3 : Int32) (h0 : Heap) (v : Option Value) (h : Heap) (vm : Vm) : Prop := ∃ (xa1 : Addr) (xk1 : ClassId), v = some (.ref xa1) ∧ av0 Z h xa1 xk1 8 [.int b1, .int 32, .int 91, .int b2, .int 44, .int 32, .int b3, .int 93] ∧ ex0 Z h xa1 ∧ Safe Z EL0 vm h xa1 ∧ h0.size ≤ xa1 ∧ h.size > xa1
theorem rm_au154 (G : GL l Z a0 zc dce kdce eed keed mroa mral mrul mrur) (F0 : av0 Z h0 pa1 pk1 16 [.int pi1, .int 32, .int 91, .int pi2, .int 44, .int 32, .int pi3, .int 93, i0, i0, i0, i0, i0, i0, i0, i0]) : M50 l Z 1 1 8 40 #[.ref pa1, i0, .int 8] h0 n0 [] [] (Q81 Z pi1 pi2 pi3 h0) := by
  refine mi B50 ef20 (hEW G) fun s X0 hsf0 n0le => ?_
  have := F0.l
  refine oI 1 X0 d50_0 rfl rfl <| oI 2 X0 d50_1 rfl rfl <| mS 5 0 X0 (rm_au54 G (by decide)) (u46 G) all0 d50_2 rfl rfl rfl lr (by decide) all0 ?_
  rintro _ _ _ _ X1 rfl K1 _ _
  refine sk [] rfl <| oI 6 X1 d50_5 rfl rfl <| oI 7 X1 d50_6 rfl rfl <| o_isub 8 (v := 8) X1 d50_7 rfl (by decide) <| oT 9 (l' := #[rr pa1, ii 0, ii 8, ii 8, uu]) X1 d50_8 rfl rfl <| oI 10 X1 d50_9 rfl rfl <| nP (aty := .byte) 12 8 X1 (w14 G) d50_10 rfl (by decide) had_byte ?_
  intro _ h2 b2 k2 X2 _ _ E2 V2 A2 _ S2
  have V3 : av0 Z h2 b2 k2 8 [i0, i0, i0, i0, i0, i0, i0, i0] := V2.pad (pad_rep [] (.int (0 : Int32)) 8)
  refine oU 14 (l' := #[rr pa1, ii 0, ii 8, ii 8, rr b2]) X2 d50_12 rfl rfl rfl <| oA 15 X2 d50_14 rfl rfl <| oI 16 X2 d50_15 rfl rfl <| oa 18 X2 d50_16 rfl rfl <| oc 19 (v := 0) X2 d50_18 rfl (by decide) <| oA 20 X2 d50_19 rfl rfl ?_
  have f4 := (F0.k0 K1).ext E2
  refine oL 21 X2 f4 d50_20 rfl <| oI 22 X2 d50_21 rfl rfl <| o_isub 23 (v := 16) X2 d50_22 rfl (by decide) <| oI 24 X2 d50_23 rfl rfl <| mS 27 4 X2 (rm_au55 G (by decide)) (u13 G) all0 d50_24 rfl rfl rfl lr (by decide) all0 ?_
  rintro _ _ _ _ X5 rfl K5 _ C5
  refine sk [.int 8, i0, .ref b2, i0, .ref pa1] rfl ?_
  have f6 := f4.k0 K5
  have f7 := V3.k0 K5
  have f8 := C5.safe (own_lt (by omega)) S2
  refine o_cp 30 (us := [.int pi1, .int 32, .int 91, .int pi2, .int 44, .int 32, .int pi3, .int 93]) (vr := [.int pi1, .int 32, .int 91, .int pi2, .int 44, .int 32, .int pi3, .int 93]) (W := 0) X5 (w116 G) (w119 G) (w117 G) (w118 G) f6 f7 (Or.inl ⟨rfl, rfl⟩) (by decide) (by decide) (by decide) (by decide) (by decide) rfl (Nat.le_of_ble_eq_true rfl) rfl d50_27 rfl rfl (by decide) (Nat.le_of_eq rfl) (by decide) (by omega) (Or.inr (by omega)) f8 ?_
  intro _ _ X9 K9 C9 V9
  have := K9.1
  refine oa 32 X9 d50_30 rfl rfl ?_
  have f10 := (A2.keep K5).keep K9
  have f11 := C9.safe (own_lt (by omega)) f8
  exact oR X9 d50_32 rfl rfl rfl (by decide) (by decide) (fun _ CC => ⟨b2, k2, rfl, V9, f10, (CC.safe (own_lt (by omega)) f11), by omega⟩)
theorem rm_au155 (G : GL l Z a0 zc dce kdce eed keed mroa mral mrul mrur) (F0 : av0 Z h0 pa1 pk1 16 [.int pi1, .int 32, .int 91, .int pi2, .int 44, .int 32, .int pi3, .int 93, i0, i0, i0, i0, i0, i0, i0, i0]) : M49 l Z 2 1 8 56 #[.ref pa1, i0, .int 8] h0 n0 [] [] (Q81 Z pi1 pi2 pi3 h0) := by
  refine mi B49 ef19 (hEW G) fun s X0 hsf0 n0le => ?_
  have := F0.l
  refine oI 1 X0 d49_0 rfl rfl <| on 4 X0 d49_1 rfl ((if0 _ _).trans (teq (by decide)).2) <| oI 5 X0 d49_4 rfl rfl <| oA 6 X0 d49_5 rfl rfl <| oL 7 X0 F0 d49_6 rfl <| oN 10 X0 d49_7 rfl (feq (by decide)).1 <| oA 11 X0 d49_10 rfl rfl <| oI 12 X0 d49_11 rfl rfl <| oI 13 X0 d49_12 rfl rfl <| mS 16 0 X0 (rm_au154 G F0) (u47 G) all0 d49_13 rfl rfl rfl lr (by decide) all0 ?_
  rintro _ _ _ _ X1 ⟨xa1_2, xk1_3, rfl, q4, q5, q6, _⟩ _ _ _
  refine sk [.ref xa1_2] rfl ?_
  exact oR X1 d49_16 rfl rfl rfl (by decide) (by decide) (fun _ CC => ⟨xa1_2, xk1_3, rfl, q4, q5, (CC.safe (own_lt (by omega)) q6), by omega⟩)
def Q82 (Z : State) (b1 : Addr) (b2 b3 b4 : Int32) (h0 : Heap) (v : Option Value) (h : Heap) (vm : Vm) : Prop := ∃ (xa1 : Addr) (xk1 : ClassId), v = none ∧ ex1 Z h b1 ∧ fd1 Z h b1 (.int 0) ∧ fd0 Z h b1 (.ref xa1) ∧ av0 Z h xa1 xk1 8 [.int b2, .int 32, .int 91, .int b3, .int 44, .int 32, .int b4, .int 93] ∧ ex0 Z h xa1 ∧ Safe Z EL0 vm h xa1 ∧ h0.size ≤ xa1 ∧ h.size > xa1
theorem rm_au156 (G : GL l Z a0 zc dce kdce eed keed mroa mral mrul mrur) (F0 : ex1 Z h0 pa1) (F1 : fd1 Z h0 pa1 (.int 0)) (F2 : fd0 Z h0 pa1 .null) (F3 : ex6 Z h0 pa2) (F4 : fd10 Z h0 pa2 (.int 0)) (F5 : fd11 Z h0 pa2 (.int 8)) (F6 : fd9 Z h0 pa2 (.ref pa3)) (F7 : av0 Z h0 pa3 pk1 16 [.int pi1, .int 32, .int 91, .int pi2, .int 44, .int 32, .int pi3, .int 93, i0, i0, i0, i0, i0, i0, i0, i0]) (ne : NE pa1 pa2 ∧ NE pa1 pa3 ∧ n0 ≤ pa1) : M44 l Z 3 1 8 71 #[.ref pa1, .ref pa2, .null] h0 n0 [pa1] [pa1] (Q82 Z pa1 pi1 pi2 pi3 h0) := by
  refine mi B44 ef18 (hEW G) fun s X0 hsf0 n0le => ?_
  have := F0.l
  have := F3.l
  have := F7.l
  have sf_pa1 := hsf0 pa1 (by simp)
  refine oA 1 X0 d44_0 rfl rfl <| o_initO 4 (W := 0) X0 (w19 G) (w20 G) (w21 G) rfl (by decide) (Nat.le_of_eq rfl) (by decide) d44_1 rfl ?_
  intro _ X2
  refine oA 5 X2 d44_4 rfl rfl <| mV 8 0 X2 F3 (rm_au50 G F6) (u42 G) all0 d44_5 rfl rfl rfl lr (by decide) all0 ?_
  rintro _ _ _ _ X3 rfl K3 _ C3
  refine sk [.ref pa3] rfl <| oV 9 (l' := #[rr pa1, rr pa2, .val .null, rr pa3, uu]) X3 d44_8 rfl rfl rfl <| oA 10 X3 d44_9 rfl rfl ?_
  have f4 := F3.keep K3
  have f5 := F5.k0 K3
  refine mV 13 0 X3 f4 (rm_au52 G f4 f5) (u44 G) all0 d44_10 rfl rfl rfl lr (by decide) all0 ?_
  rintro _ _ _ _ X6 rfl K6 _ C6
  refine sk [.int 8] rfl <| oS 15 (l' := #[rr pa1, rr pa2, .val .null, rr pa3, ii 8]) X6 d44_13 rfl rfl <| oA 16 X6 d44_15 rfl rfl ?_
  have f7 := (F4.k0 K3).k0 K6
  have f8 := f4.keep K6
  refine mV 19 0 X6 f8 (rm_au53 G f7 (by decide)) (u45 G) all0 d44_16 rfl rfl rfl lr (by decide) all0 ?_
  rintro _ _ _ _ X9 rfl K9 _ C9
  refine sk [.int 1] rfl <| on 22 X9 d44_19 rfl ((if0 _ _).trans (feq (by decide)).1) <| oA 23 X9 d44_22 rfl rfl <| oc 24 (v := 0) X9 d44_23 rfl (by decide) ?_
  have f10 := ((F1.k0 K3).k0 K6).k0 K9
  have f11 := ((F0.keep K3).keep K6).keep K9
  have f13 := C9.safe (own_lt (by omega)) (C6.safe (own_lt (by omega)) (C3.safe (own_lt (by omega)) sf_pa1))
  refine oP 27 (v' := (.int 0)) X9 (w24 G) Via.refl f10 f11 (Or.inr ⟨(w25 G), rfl, rfl⟩) (w10 G) fd_1 rfl rfl d44_24 rfl (by omega) (Or.inl (by simp)) f13 ?_
  intro _ _ X12 W12 C12
  have := W12.size
  have f14 := f10.same W12
  refine oA 28 X12 d44_27 rfl rfl <| oA 29 X12 d44_28 rfl rfl <| oc 30 (v := 0) X12 d44_29 rfl (by decide) <| oi 32 X12 d44_30 rfl rfl ?_
  have f15 := (((F7.k0 K3).k0 K6).k0 K9).oth W12 (by omega)
  refine mS 35 1 X12 (rm_au155 G f15) (u48 G) all0 d44_32 rfl rfl rfl lr (by decide) all0 ?_
  rintro _ _ _ _ X16 ⟨xa1_17, xk1_18, rfl, q19, q20, q21, _⟩ K16 _ C16
  refine sk [.ref xa1_17, .ref pa1] rfl ?_
  have f23 := ((((F2.k0 K3).k0 K6).k0 K9).other W12 (Or.inr (sn1 G))).k0 K16
  have f24 := (f11.wr W12).keep K16
  have f26 := C16.safe (own_lt (by omega)) (C12.safe (own_lt (by omega)) f13)
  refine oP 38 (v' := (.ref xa1_17)) X16 (w22 G) Via.refl f23 f24 (Or.inr ⟨(w23 G), rfl, rfl⟩) (w10 G) fd_0 rfl rfl d44_35 rfl (by omega) (Or.inl (by simp)) f26 ?_
  intro _ _ X25 W25 C25
  have := W25.size
  have f27 := f23.same W25
  refine og 97 X25 d44_38 (by decide) ?_
  have f28 := f24.wr W25
  have f29 := (f14.k0 K16).other W25 (Or.inr (sn0 G))
  have f30 := q19.oth W25 (by omega)
  have f31 := q20.wr W25
  have f32 := C25.safe (own_lt (by omega)) q21
  exact oz X25 d44_97 rfl (by decide) (by decide) (fun _ CC => ⟨xa1_17, xk1_18, rfl, f28, f29, f27, f30, f31, (CC.safe (own_lt (by omega)) f32), by omega⟩)
theorem rm_au157 (G : GL l Z a0 zc dce kdce eed keed mroa mral mrul mrur) (F0 : ex1 Z h0 pa1) (F1 : fd1 Z h0 pa1 (.int 0)) (F2 : fd0 Z h0 pa1 .null) (F3 : ex6 Z h0 pa2) (F4 : fd10 Z h0 pa2 (.int 0)) (F5 : fd11 Z h0 pa2 (.int 8)) (F6 : fd9 Z h0 pa2 (.ref pa3)) (F7 : av0 Z h0 pa3 pk1 16 [.int pi1, .int 32, .int 91, .int pi2, .int 44, .int 32, .int pi3, .int 93, i0, i0, i0, i0, i0, i0, i0, i0]) (ne : NE pa1 pa2 ∧ NE pa1 pa3 ∧ n0 ≤ pa1) : M43 l Z 4 1 8 87 #[.ref pa1, .ref pa2] h0 n0 [pa1] [pa1] (Q82 Z pa1 pi1 pi2 pi3 h0) := by
  refine mi B43 ef4 (hEW G) fun s X0 hsf0 n0le => ?_
  have := F0.l
  have := F3.l
  have := F7.l
  have sf_pa1 := hsf0 pa1 (by simp)
  refine oA 1 X0 d43_0 rfl rfl <| oA 2 X0 d43_1 rfl rfl <| o_aconstNull 3 X0 d43_2 rfl <| mP 6 0 X0 (rm_au156 G F0 F1 F2 F3 F4 F5 F6 F7 (by omega)) (u49 G) (sS (by omega) sf_pa1 all0) d43_3 rfl rfl rfl lr (by decide) (aI (by omega) (by simp) all0) ?_
  rintro _ _ _ _ X1 ⟨xa1_2, xk1_3, rfl, q4, q5, q6, q7, q8, q9, _⟩ _ _ _
  refine sk [] rfl ?_
  exact oz X1 d43_6 rfl (by decide) (by decide) (fun _ CC => ⟨xa1_2, xk1_3, rfl, q4, q5, q6, q7, q8, (CC.safe (own_lt (by omega)) q9), by omega⟩)
def Q83 (Z : State) (b1 b2 b3 : Int32) (h0 : Heap) (v : Option Value) (h : Heap) (vm : Vm) : Prop := ∃ (xa1 : Addr) (xa2 : Addr) (xk1 : ClassId), v = some (.ref xa1) ∧ ex1 Z h xa1 ∧ fd1 Z h xa1 (.int 0) ∧ fd0 Z h xa1 (.ref xa2) ∧ Safe Z EL0 vm h xa1 ∧ av0 Z h xa2 xk1 8 [.int b1, .int 32, .int 91, .int b2, .int 44, .int 32, .int b3, .int 93] ∧ ex0 Z h xa2 ∧ Safe Z EL0 vm h xa2 ∧ h0.size ≤ xa1 ∧ h.size > xa1 ∧ h0.size ≤ xa2 ∧ h.size > xa2 ∧ NE xa1 xa2
theorem rm_au158 (G : GL l Z a0 zc dce kdce eed keed mroa mral mrul mrur) (F0 : ex6 Z h0 pa1) (F1 : fd10 Z h0 pa1 (.int 0)) (F2 : fd11 Z h0 pa1 (.int 8)) (F3 : fd9 Z h0 pa1 (.ref pa2)) (F4 : av0 Z h0 pa2 pk1 16 [.int pi1, .int 32, .int 91, .int pi2, .int 44, .int 32, .int pi3, .int 93, i0, i0, i0, i0, i0, i0, i0, i0]) : M42 l Z 5 2 12 101 #[.ref pa1] h0 n0 [] [] (Q83 Z pi1 pi2 pi3 h0) := by
  refine mi B42 ef9 (hEW G) fun s X0 hsf0 n0le => ?_
  have l1 := F0.l
  have := F4.l
  refine o_new 3 X0 (w294 G) (w10 G) (w2 G) d42_0 rfl (by decide) (by decide) ?_
  intro _ h1 b1 X1 _ l1 E1 A1 D1 _ _ S1
  have f2 : fd0 Z h1 b1 .null := D1 (Or.inr (w23 G)) fd_0
  have f3 : fd1 Z h1 b1 (.int 0) := D1 (Or.inr (w25 G)) fd_1
  refine oD 4 X1 d42_3 rfl rfl <| oA 5 X1 d42_4 rfl rfl ?_
  have f4 := F0.ext E1
  have f5 := F1.ext E1
  have f6 := F2.ext E1
  have f7 := F3.ext E1
  have f8 := F4.ext E1
  refine mP 8 1 X1 (rm_au157 G A1 f3 f2 f4 f5 f6 f7 f8 (by omega)) (u50 G) (sS (by omega) S1 all0) d42_5 rfl rfl rfl lr (by decide) (aR (by omega) all0) ?_
  rintro _ _ _ _ X9 ⟨xa1_10, xk1_11, rfl, q12, q13, q14, q15, q16, q17, _⟩ _ _ C9
  refine sk [.ref b1] rfl ?_
  have f19 := C9.safe (own_lt (by omega)) S1
  exact oR X9 d42_8 rfl rfl rfl (by decide) (by decide) (fun _ CC => ⟨b1, xa1_10, xk1_11, rfl, q12, q13, q14, (CC.safe (own_lt (by omega)) f19), q15, q16, (CC.safe (own_lt (by omega)) q17), by omega⟩)
theorem rm_au159 (G : GL l Z a0 zc dce kdce eed keed mroa mral mrul mrur) (F0 : ex5 Z h0 pa1) (F1 : fd6 Z h0 pa1 (.ref pa2)) (F2 : fd5 Z h0 pa1 (.ref pa3)) (F3 : ex4 Z h0 pa2) (F4 : fd7 Z h0 pa2 (.ref pa4)) (F5 : ex1 Z h0 pa3) (F6 : fd1 Z h0 pa3 (.int 0)) (F7 : fd0 Z h0 pa3 (.ref pa5)) (F8 : ex2 Z h0 pa4) (F9 : fd3 Z h0 pa4 (.ref pa6)) (F10 : fd2 Z h0 pa4 (.int 0)) (F11 : fd4 Z h0 pa4 (.int 2)) (F12 : av0 Z h0 pa5 pk1 1 [.int pi1]) (F13 : ex0 Z h0 pa5) (F14 : av2 Z h0 pa6 pk2 2 [.ref pa7, .ref pa8]) (F15 : ex3 Z h0 pa6) (F16 : ex1 Z h0 pa7) (F17 : fd1 Z h0 pa7 (.int 0)) (F18 : fd0 Z h0 pa7 (.ref pa9)) (F19 : ex1 Z h0 pa8) (F20 : fd1 Z h0 pa8 (.int 0)) (F21 : fd0 Z h0 pa8 (.ref pa10)) (F22 : av0 Z h0 pa9 pk3 1 [.int pi2]) (F23 : ex0 Z h0 pa9) (F24 : av0 Z h0 pa10 pk4 1 [.int pi3]) (F25 : ex0 Z h0 pa10) (ne : NE pa4 pa7 ∧ NE pa4 pa8) : M24 l Z 10 11 74 166 #[.ref pa1] h0 n0 [] [] (Q83 Z pi1 pi2 pi3 h0) := by
  have hw := G.1
  refine mi B24 ef9 (hEW G) fun s X0 hsf0 n0le => ?_
  have l1 := F0.l
  have := F3.l
  have := F5.l
  have := F8.l
  have := F12.l
  have := F14.l
  have := F16.l
  have := F19.l
  have := F22.l
  have := F24.l
  refine o_new 3 X0 (w168 G) (w169 G) (w170 G) d24_0 rfl (by decide) (by decide) ?_
  intro _ h1 b1 X1 _ l1 E1 A1 D1 _ _ _
  have f2 : fd9 Z h1 b1 .null := D1 (Or.inl (w183 G)) fd_0
  have f3 : fd10 Z h1 b1 (.int 0) := D1 (Or.inl (w185 G)) fd_1
  have f4 : fd11 Z h1 b1 (.int 0) := D1 (Or.inl (w207 G)) fd_2
  refine oD 4 X1 d24_3 rfl rfl <| mP 7 1 X1 (rm_au24 G A1 f3 f4 f2 (by omega)) (u24 G) all0 d24_4 rfl rfl rfl lr (by decide) (aR (by omega) all0) ?_
  rintro _ _ _ _ X5 ⟨xa1_6, _, rfl, q8, q9, q10, q11, q12, q13, q14, _⟩ K5 _ _
  refine sk [.ref b1] rfl <| oA 8 X5 d24_7 rfl rfl ?_
  have f16 := (F2.ext E1).k1 K5 (by omega)
  refine oF 11 X5 (w79 G) Via.refl f16 d24_8 rfl ?_
  intro _ X18
  have f19 := (F5.ext E1).keep K5
  have f20 := (F6.ext E1).k1 K5 (by omega)
  have f21 := (F7.ext E1).k1 K5 (by omega)
  have f22 := (F12.ext E1).k1 K5 (by omega)
  refine mV 14 0 X18 q8 (rm_au32 G q8 q9 q10 q11 f19 f20 f21 q12 q13 f22 (by omega)) (u33 G) (sS (by omega) q14 all0) d24_11 rfl rfl rfl lr (by decide) (aR (by omega) (aR (by omega) all0)) ?_
  rintro _ _ _ _ X23 ⟨rfl, q24, q25, q26, q27, q28, q29⟩ K23 _ C23
  refine sk [.ref b1] rfl <| o_ldcC 16 (n := 4) (vs := own_bs ([32] : List Int32)) (z := (1 : Int32)) X23 (w230 G) (hws_str hw) (by decide) ⟨by decide, rfl⟩ (by decide) (by decide) d24_14 rfl (by decide) (by decide) (by decide) (by decide) ?_
  intro a30 b30 kb30 _ h30 _ X30 E30 C30 Es30 Cs30 Vs30 As30 SF30
  have lta30 : h30.size > a30 := Es30.lt
  have ltb30 : h30.size > b30 := As30.lt
  have := E30.1
  have Bs30 : av0 Z h30 b30 kb30 1 [.int 32] := As30
  have f32 := q24.ext E30
  have := own_nes (SF30 b1 (sx X30 f32 nc5))
  have f34 := (((F0.ext E1).keep K5).keep K23).ext E30
  have := own_nes (SF30 pa1 (sx X30 f34 nc2))
  have f36 := (((F3.ext E1).keep K5).keep K23).ext E30
  have := own_nes (SF30 pa2 (sx X30 f36 nc4))
  have f38 := (((F8.ext E1).keep K5).keep K23).ext E30
  have := own_nes (SF30 pa4 (sx X30 f38 nc1))
  have f40 := (((F15.ext E1).keep K5).keep K23).ext E30
  have := own_nes (SF30 pa6 (sx X30 f40 nc3))
  have f42 := C30.safe (own_lt (by omega)) (C23.safe (own_lt (by omega)) q14)
  have := own_nes (SF30 xa1_6 f42)
  have f43 := q25.ext E30
  have f44 := q26.ext E30
  have f45 := q27.ext E30
  have f46 := q28.ext E30
  have f47 := q29.ext E30
  have := own_neC f32 Es30 (by decide +kernel)
  have := own_neE f32 Bs30 (w169 G)
  have := own_neC Es30 f47 (by decide +kernel)
  have := own_neA f46 Bs30 (by decide)
  refine mV 19 0 X30 f32 (rm_au36 G f32 f43 f44 f45 Es30 Cs30 Vs30 f46 f47 Bs30 (by omega)) (u33 G) (sS (by omega) f42 all0) d24_16 rfl rfl rfl lr (by decide) (aR (by omega) (aR (by omega) all0)) ?_
  rintro _ _ _ _ X52 ⟨rfl, q53, q54, q55, q56, q57, q58⟩ K52 _ C52
  refine sk [.ref b1] rfl <| oA 20 X52 d24_19 rfl rfl ?_
  have f59 := ((((F1.ext E1).k1 K5 (by omega)).k2 K23 (by omega)).ext E30).k2 K52 (by omega)
  refine oF 23 X52 (w161 G) Via.refl f59 d24_20 rfl ?_
  intro _ X61
  have f62 := f36.keep K52
  have f63 := ((((F4.ext E1).k1 K5 (by omega)).k2 K23 (by omega)).ext E30).k2 K52 (by omega)
  have f64 := f38.keep K52
  have f65 := ((((F9.ext E1).k1 K5 (by omega)).k2 K23 (by omega)).ext E30).k2 K52 (by omega)
  have f66 := ((((F10.ext E1).k1 K5 (by omega)).k2 K23 (by omega)).ext E30).k2 K52 (by omega)
  have f67 := ((((F11.ext E1).k1 K5 (by omega)).k2 K23 (by omega)).ext E30).k2 K52 (by omega)
  have f68 := ((((F14.ext E1).k1 K5 (by omega)).k2 K23 (by omega)).ext E30).k2 K52 (by omega)
  have f69 := ((((F16.ext E1).keep K5).keep K23).ext E30).keep K52
  have f70 := ((((F17.ext E1).k1 K5 (by omega)).k2 K23 (by omega)).ext E30).k2 K52 (by omega)
  have f71 := ((((F18.ext E1).k1 K5 (by omega)).k2 K23 (by omega)).ext E30).k2 K52 (by omega)
  have f72 := ((((F19.ext E1).keep K5).keep K23).ext E30).keep K52
  have f73 := ((((F20.ext E1).k1 K5 (by omega)).k2 K23 (by omega)).ext E30).k2 K52 (by omega)
  have f74 := ((((F21.ext E1).k1 K5 (by omega)).k2 K23 (by omega)).ext E30).k2 K52 (by omega)
  have f75 := ((((F22.ext E1).k1 K5 (by omega)).k2 K23 (by omega)).ext E30).k2 K52 (by omega)
  have f76 := ((((F24.ext E1).k1 K5 (by omega)).k2 K23 (by omega)).ext E30).k2 K52 (by omega)
  have f77 := C52.safe (own_lt (by omega)) f42
  refine mV 26 0 X61 q53 (rm_au153 G q53 q54 q55 q56 f62 f63 q57 q58 f64 f65 f66 f67 f68 f69 f70 f71 f72 f73 f74 f75 f76 (by omega)) (u41 G) (sS (by omega) f77 all0) d24_23 rfl rfl rfl lr (by decide) (aR (by omega) (aR (by omega) all0)) ?_
  rintro _ _ _ _ X78 ⟨rfl, q79, q80, q81, q82, q83, _⟩ _ _ _
  refine sk [.ref b1] rfl <| mV 29 0 X78 q79 (rm_au158 G q79 q80 q81 q82 q83) (u51 G) all0 d24_26 rfl rfl rfl lr (by decide) all0 ?_
  rintro _ _ _ _ X85 ⟨xa1_86, xa2_87, xk1_88, rfl, q89, q90, q91, q92, q93, q94, q95, _⟩ _ _ _
  refine sk [.ref xa1_86] rfl ?_
  exact oR X85 d24_29 rfl rfl rfl (by decide) (by decide) (fun _ CC => ⟨xa1_86, xa2_87, xk1_88, rfl, q89, q90, q91, (CC.safe (own_lt (by omega)) q92), q93, q94, (CC.safe (own_lt (by omega)) q95), by omega⟩)
theorem rm_au160 (G : GL l Z a0 zc dce kdce eed keed mroa mral mrul mrur) (F0 : av0 Z h0 pa1 pk1 8 [.int pi1, .int pi2, .int pi3, .int pi4, .int pi5, .int pi6, .int pi7, .int pi8]) (F1 : av0 Z h0 pa2 pk2 8 [.int pi1, .int pi9, .int pi10, .int pi4, .int pi11, .int pi12, .int pi7, .int pi13]) (pc_0 : pi2 = pi9) (pc_1 : pi3 = pi10) (pc_2 : pi5 = pi11) (pc_3 : pi6 = pi12) (pc_4 : pi8 = pi13) : M53 l Z 0 0 0 0 #[.ref pa1, .ref pa2] h0 n0 [] [] (Q0 Z  h0) := by
  refine mi B53 ef11 (hEW G) fun s X0 hsf0 n0le => ?_
  have := F0.l
  have := F1.l
  refine oA 1 X0 d53_0 rfl rfl <| oL 2 X0 F0 d53_1 rfl <| oA 3 X0 d53_2 rfl rfl <| oL 4 X0 F1 d53_3 rfl <| oN 7 X0 d53_4 rfl (teq (by decide)).2 <| oc 8 (v := 0) X0 d53_7 rfl (by decide) <| oT 9 (l' := #[rr pa1, rr pa2, ii 0]) X0 d53_8 rfl rfl <| oI 10 X0 d53_9 rfl rfl <| oA 11 X0 d53_10 rfl rfl <| oL 12 X0 F0 d53_11 rfl <| oN 15 X0 d53_12 rfl (tlt (by decide)).2.1 <| oA 16 X0 d53_15 rfl rfl ?_
  refine oI 17 X0 d53_16 rfl rfl <| oB 18 (v := (.int pi1)) X0 F0 ⟨by decide, by decide⟩ rfl d53_17 rfl <| oA 19 X0 d53_18 rfl rfl <| oI 20 X0 d53_19 rfl rfl <| oB 21 (v := (.int pi1)) X0 F1 ⟨by decide, by decide⟩ rfl d53_20 rfl <| oY 26 X0 d53_21 (by decide) (teq rfl).1 <| oJ 29 1 #[rr pa1, rr pa2, ii 1] X0 d53_26 rfl rfl (by decide) rfl <| og 9 X0 d53_29 (by decide) <| oI 10 X0 d53_9 rfl rfl <| oA 11 X0 d53_10 rfl rfl <| oL 12 X0 F0 d53_11 rfl <| oN 15 X0 d53_12 rfl (tlt (by decide)).2.1 ?_
  refine oA 16 X0 d53_15 rfl rfl <| oI 17 X0 d53_16 rfl rfl <| oB 18 (v := (.int pi2)) X0 F0 ⟨by decide, by decide⟩ rfl d53_17 rfl <| oA 19 X0 d53_18 rfl rfl <| oI 20 X0 d53_19 rfl rfl <| oB 21 (v := (.int pi9)) X0 F1 ⟨by decide, by decide⟩ rfl d53_20 rfl <| oY 26 X0 d53_21 (by decide) (teq pc_0).1 <| oJ 29 2 #[rr pa1, rr pa2, ii 2] X0 d53_26 rfl rfl (by decide) rfl <| og 9 X0 d53_29 (by decide) <| oI 10 X0 d53_9 rfl rfl <| oA 11 X0 d53_10 rfl rfl <| oL 12 X0 F0 d53_11 rfl ?_
  refine oN 15 X0 d53_12 rfl (tlt (by decide)).2.1 <| oA 16 X0 d53_15 rfl rfl <| oI 17 X0 d53_16 rfl rfl <| oB 18 (v := (.int pi3)) X0 F0 ⟨by decide, by decide⟩ rfl d53_17 rfl <| oA 19 X0 d53_18 rfl rfl <| oI 20 X0 d53_19 rfl rfl <| oB 21 (v := (.int pi10)) X0 F1 ⟨by decide, by decide⟩ rfl d53_20 rfl <| oY 26 X0 d53_21 (by decide) (teq pc_1).1 <| oJ 29 3 #[rr pa1, rr pa2, ii 3] X0 d53_26 rfl rfl (by decide) rfl <| og 9 X0 d53_29 (by decide) <| oI 10 X0 d53_9 rfl rfl <| oA 11 X0 d53_10 rfl rfl ?_
  refine oL 12 X0 F0 d53_11 rfl <| oN 15 X0 d53_12 rfl (tlt (by decide)).2.1 <| oA 16 X0 d53_15 rfl rfl <| oI 17 X0 d53_16 rfl rfl <| oB 18 (v := (.int pi4)) X0 F0 ⟨by decide, by decide⟩ rfl d53_17 rfl <| oA 19 X0 d53_18 rfl rfl <| oI 20 X0 d53_19 rfl rfl <| oB 21 (v := (.int pi4)) X0 F1 ⟨by decide, by decide⟩ rfl d53_20 rfl <| oY 26 X0 d53_21 (by decide) (teq rfl).1 <| oJ 29 4 #[rr pa1, rr pa2, ii 4] X0 d53_26 rfl rfl (by decide) rfl <| og 9 X0 d53_29 (by decide) <| oI 10 X0 d53_9 rfl rfl ?_
  refine oA 11 X0 d53_10 rfl rfl <| oL 12 X0 F0 d53_11 rfl <| oN 15 X0 d53_12 rfl (tlt (by decide)).2.1 <| oA 16 X0 d53_15 rfl rfl <| oI 17 X0 d53_16 rfl rfl <| oB 18 (v := (.int pi5)) X0 F0 ⟨by decide, by decide⟩ rfl d53_17 rfl <| oA 19 X0 d53_18 rfl rfl <| oI 20 X0 d53_19 rfl rfl <| oB 21 (v := (.int pi11)) X0 F1 ⟨by decide, by decide⟩ rfl d53_20 rfl <| oY 26 X0 d53_21 (by decide) (teq pc_2).1 <| oJ 29 5 #[rr pa1, rr pa2, ii 5] X0 d53_26 rfl rfl (by decide) rfl <| og 9 X0 d53_29 (by decide) ?_
  refine oI 10 X0 d53_9 rfl rfl <| oA 11 X0 d53_10 rfl rfl <| oL 12 X0 F0 d53_11 rfl <| oN 15 X0 d53_12 rfl (tlt (by decide)).2.1 <| oA 16 X0 d53_15 rfl rfl <| oI 17 X0 d53_16 rfl rfl <| oB 18 (v := (.int pi6)) X0 F0 ⟨by decide, by decide⟩ rfl d53_17 rfl <| oA 19 X0 d53_18 rfl rfl <| oI 20 X0 d53_19 rfl rfl <| oB 21 (v := (.int pi12)) X0 F1 ⟨by decide, by decide⟩ rfl d53_20 rfl <| oY 26 X0 d53_21 (by decide) (teq pc_3).1 <| oJ 29 6 #[rr pa1, rr pa2, ii 6] X0 d53_26 rfl rfl (by decide) rfl ?_
  refine og 9 X0 d53_29 (by decide) <| oI 10 X0 d53_9 rfl rfl <| oA 11 X0 d53_10 rfl rfl <| oL 12 X0 F0 d53_11 rfl <| oN 15 X0 d53_12 rfl (tlt (by decide)).2.1 <| oA 16 X0 d53_15 rfl rfl <| oI 17 X0 d53_16 rfl rfl <| oB 18 (v := (.int pi7)) X0 F0 ⟨by decide, by decide⟩ rfl d53_17 rfl <| oA 19 X0 d53_18 rfl rfl <| oI 20 X0 d53_19 rfl rfl <| oB 21 (v := (.int pi7)) X0 F1 ⟨by decide, by decide⟩ rfl d53_20 rfl <| oY 26 X0 d53_21 (by decide) (teq rfl).1 ?_
  refine oJ 29 7 #[rr pa1, rr pa2, ii 7] X0 d53_26 rfl rfl (by decide) rfl <| og 9 X0 d53_29 (by decide) <| oI 10 X0 d53_9 rfl rfl <| oA 11 X0 d53_10 rfl rfl <| oL 12 X0 F0 d53_11 rfl <| oN 15 X0 d53_12 rfl (tlt (by decide)).2.1 <| oA 16 X0 d53_15 rfl rfl <| oI 17 X0 d53_16 rfl rfl <| oB 18 (v := (.int pi8)) X0 F0 ⟨by decide, by decide⟩ rfl d53_17 rfl <| oA 19 X0 d53_18 rfl rfl <| oI 20 X0 d53_19 rfl rfl <| oB 21 (v := (.int pi13)) X0 F1 ⟨by decide, by decide⟩ rfl d53_20 rfl ?_
  refine oY 26 X0 d53_21 (by decide) (teq pc_4).1 <| oJ 29 8 #[rr pa1, rr pa2, ii 8] X0 d53_26 rfl rfl (by decide) rfl <| og 9 X0 d53_29 (by decide) <| oI 10 X0 d53_9 rfl rfl <| oA 11 X0 d53_10 rfl rfl <| oL 12 X0 F0 d53_11 rfl <| oY 32 X0 d53_12 (by decide) (flt (by decide)).2.1 <| oc 33 (v := 1) X0 d53_32 rfl (by decide) ?_
  exact o_nret (y := (1 : Int32)) (t := .boolean) X0 d53_33 rfl (by decide) (by simp) (by decide) (by decide) (fun _ CC => rfl)
theorem rm_au161 (G : GL l Z a0 zc dce kdce eed keed mroa mral mrul mrur) (F0 : fd1 Z h0 pa1 (.int pi100)) (F1 : fd0 Z h0 pa1 (.ref pa3)) (F2 : ex1 Z h0 pa2) (F3 : fd1 Z h0 pa2 (.int pi101)) (F4 : fd0 Z h0 pa2 (.ref pa4)) (F5 : av0 Z h0 pa3 pk1 8 [.int pi1, .int pi102, .int pi103, .int pi2, .int pi104, .int pi105, .int pi3, .int pi106]) (F6 : av0 Z h0 pa4 pk2 8 [.int pi1, .int pi107, .int pi108, .int pi2, .int pi109, .int pi110, .int pi3, .int pi111]) (pc_0 : pi100 = pi101) (pc_1 : pi102 = pi107) (pc_2 : pi103 = pi108) (pc_3 : pi104 = pi109) (pc_4 : pi105 = pi110) (pc_5 : pi106 = pi111) (ne : NE pa1 pa2) : M52 l Z 1 0 0 14 #[.ref pa1, .ref pa2] h0 n0 [] [] (Q0 Z  h0) := by
  refine mi B52 ef11 (hEW G) fun s X0 hsf0 n0le => ?_
  have := F0.l
  have := F2.l
  have := F5.l
  have := F6.l
  refine oA 1 X0 d52_0 rfl rfl <| oA 2 X0 d52_1 rfl rfl <| o_acmp 7 (same := false) X0 d52_2 rfl rfl (decide_eq_false (fun q => absurd (Value.ref.inj q) (own_ne (by omega)))) (by decide) (by decide) <| oA 8 X0 d52_7 rfl rfl <| o_instY 11 X0 (w9 G) (Ins.self F2) d52_8 rfl ?_
  intro _ X2
  refine on 14 X2 d52_11 rfl ((if0 _ _).trans (feq (by decide)).1) <| oA 15 X2 d52_14 rfl rfl <| o_castY 18 X2 (w9 G) (Ins.self F2) d52_15 rfl ?_
  intro _ X4
  refine oV 19 (l' := #[rr pa1, rr pa2, rr pa2]) X4 d52_18 rfl rfl rfl <| oG 22 X4 (w4 G) Via.refl ((sg10 G).ext X4.old.2) d52_19 rfl ?_
  intro _ X6
  refine on 25 X6 d52_22 rfl ((if0 _ _).trans (feq (hzc G)).1) <| oA 26 X6 d52_25 rfl rfl <| oF 29 X6 (w24 G) Via.refl F0 d52_26 rfl ?_
  intro _ X8
  refine oA 30 X8 d52_29 rfl rfl <| oF 33 X8 (w24 G) Via.refl F3 d52_30 rfl ?_
  intro _ X10
  refine oN 36 X10 d52_33 rfl (teq pc_0).2 <| oA 37 X10 d52_36 rfl rfl <| oF 40 X10 (w22 G) Via.refl F1 d52_37 rfl ?_
  intro _ X12
  refine oA 41 X12 d52_40 rfl rfl <| oF 44 X12 (w22 G) Via.refl F4 d52_41 rfl ?_
  intro _ X14
  refine mS 47 0 X14 (rm_au160 G F5 F6 pc_1 pc_2 pc_3 pc_4 pc_5) (u53 G) all0 d52_44 rfl rfl rfl lr (by decide) all0 ?_
  rintro _ _ _ _ X15 rfl _ _ _
  refine sk [.int 1] rfl <| on 50 X15 d52_47 rfl ((if0 _ _).trans (feq (by decide)).1) <| oc 51 (v := 1) X15 d52_50 rfl (by decide) <| og 55 X15 d52_51 (by decide) ?_
  exact o_nret (y := (1 : Int32)) (t := .boolean) X15 d52_55 rfl (by decide) (by simp) (by decide) (by decide) (fun _ CC => rfl)
def Q84 (Z : State) (b1 : Addr) (b2 : ClassId) (b3 b4 b5 b6 : Int32) (h0 : Heap) (v : Option Value) (h : Heap) (vm : Vm) : Prop := v = some (.int 11) ∧ av0 Z h b1 b2 11 [.int (b3.toInt8.toInt32), .int 32, .int 91, .int (b4.toInt8.toInt32), .int 44, .int 32, .int (b5.toInt8.toInt32), .int 44, .int 32, .int (b6.toInt8.toInt32), .int 93] ∧ ex0 Z h b1
theorem rm_au162 (G : GL l Z a0 zc dce kdce eed keed mroa mral mrul mrur) (F0 : av1 Z h0 pa1 pk1 11 [.int pi1, .int 32, .int 91, .int pi2, .int 44, .int 32, .int pi3, .int 44, .int 32, .int pi4, .int 93]) (F1 : av0 Z h0 pa2 pk2 11 [i0, i0, i0, i0, i0, i0, i0, i0, i0, i0, i0]) (F2 : ex0 Z h0 pa2) (rg_pi1 : ¬ pi1 < 0 ∧ ¬ (255 : Int32) < pi1) (rg_pi2 : ¬ pi2 < 0 ∧ ¬ (255 : Int32) < pi2) (rg_pi3 : ¬ pi3 < 0 ∧ ¬ (255 : Int32) < pi3) (rg_pi4 : ¬ pi4 < 0 ∧ ¬ (255 : Int32) < pi4) (ne : NE pa1 pa2 ∧ n0 ≤ pa2) : M9 l Z 0 0 0 0 #[.ref pa1, i0, .ref pa2, i0, .int 11] h0 n0 [pa2] [pa2] (Q84 Z pa2 pk2 pi1 pi2 pi3 pi4 h0) := by
  refine mi B9 ef7 (hEW G) fun s X0 hsf0 n0le => ?_
  have := F0.l
  have := F1.l
  have sf_pa2 := hsf0 pa2 (by simp)
  refine oc 1 (v := 0) X0 d9_0 rfl (by decide) <| oS 3 (l' := #[rr pa1, ii 0, rr pa2, ii 0, ii 11, ii 0, uu]) X0 d9_1 rfl rfl <| oi 5 X0 d9_3 rfl rfl <| oi 7 X0 d9_5 rfl rfl <| oN 10 X0 d9_7 rfl (tlt (by decide)).2.1 <| oA 11 X0 d9_10 rfl rfl <| oI 12 X0 d9_11 rfl rfl <| oC 13 (v := (.int pi1)) X0 F0 ⟨by decide, by decide⟩ rfl d9_12 rfl <| oS 15 (l' := #[rr pa1, ii 0, rr pa2, ii 0, ii 11, ii 0, ii pi1]) X0 d9_13 rfl rfl <| oi 17 X0 d9_15 rfl rfl <| o_sipush 20 (v := 255) X0 d9_17 rfl (by decide) <| oY 26 X0 d9_20 (by decide) (flt rg_pi1.2).2.2.2 ?_
  refine oA 27 X0 d9_26 rfl rfl <| oI 28 X0 d9_27 rfl rfl <| oi 30 X0 d9_28 rfl rfl <| o_i2b 31 (v := (pi1.toInt8.toInt32)) X0 d9_30 rfl rfl <| sB 32 0 (pi1.toInt8.toInt32) X0 F1 (by decide) (lb rfl) (own_narB _) d9_31 rfl (by omega) (Or.inl (by simp)) sf_pa2 ?_
  rintro _ _ X1 ⟨_, _, W1⟩ C1 V1
  have := W1.size
  have V2 := V1.as [.int (pi1.toInt8.toInt32), i0, i0, i0, i0, i0, i0, i0, i0, i0, i0] rfl
  refine oJ 35 1 #[rr pa1, ii 1, rr pa2, ii 0, ii 11, ii 0, ii pi1] X1 d9_32 rfl rfl (by decide) rfl <| oJ 38 1 #[rr pa1, ii 1, rr pa2, ii 1, ii 11, ii 0, ii pi1] X1 d9_35 rfl rfl (by decide) rfl <| oJ 41 1 #[rr pa1, ii 1, rr pa2, ii 1, ii 11, ii 1, ii pi1] X1 d9_38 rfl rfl (by decide) rfl <| og 3 X1 d9_41 (by decide) <| oi 5 X1 d9_3 rfl rfl <| oi 7 X1 d9_5 rfl rfl <| oN 10 X1 d9_7 rfl (tlt (by decide)).2.1 <| oA 11 X1 d9_10 rfl rfl <| oI 12 X1 d9_11 rfl rfl ?_
  have f3 := F0.oth W1 (by omega)
  refine oC 13 (v := (.int 32)) X1 f3 ⟨by decide, by decide⟩ rfl d9_12 rfl <| oS 15 (l' := #[rr pa1, ii 1, rr pa2, ii 1, ii 11, ii 1, ii 32]) X1 d9_13 rfl rfl <| oi 17 X1 d9_15 rfl rfl <| o_sipush 20 (v := 255) X1 d9_17 rfl (by decide) <| oY 26 X1 d9_20 (by decide) (flt (by decide)).2.2.2 <| oA 27 X1 d9_26 rfl rfl <| oI 28 X1 d9_27 rfl rfl <| oi 30 X1 d9_28 rfl rfl <| o_i2b 31 (v := 32) X1 d9_30 rfl (by decide) ?_
  have f5 := C1.safe (own_lt (by omega)) sf_pa2
  refine sB 32 1 32 X1 V2 (by decide) (lb rfl) (by decide) d9_31 rfl (by omega) (Or.inl (by simp)) f5 ?_
  rintro _ _ X4 ⟨_, _, W4⟩ C4 V4
  have := W4.size
  have V6 := V4.as [.int (pi1.toInt8.toInt32), .int 32, i0, i0, i0, i0, i0, i0, i0, i0, i0] rfl
  refine oJ 35 2 #[rr pa1, ii 2, rr pa2, ii 1, ii 11, ii 1, ii 32] X4 d9_32 rfl rfl (by decide) rfl <| oJ 38 2 #[rr pa1, ii 2, rr pa2, ii 2, ii 11, ii 1, ii 32] X4 d9_35 rfl rfl (by decide) rfl <| oJ 41 2 #[rr pa1, ii 2, rr pa2, ii 2, ii 11, ii 2, ii 32] X4 d9_38 rfl rfl (by decide) rfl <| og 3 X4 d9_41 (by decide) <| oi 5 X4 d9_3 rfl rfl <| oi 7 X4 d9_5 rfl rfl <| oN 10 X4 d9_7 rfl (tlt (by decide)).2.1 <| oA 11 X4 d9_10 rfl rfl <| oI 12 X4 d9_11 rfl rfl ?_
  have f7 := f3.oth W4 (by omega)
  refine oC 13 (v := (.int 91)) X4 f7 ⟨by decide, by decide⟩ rfl d9_12 rfl <| oS 15 (l' := #[rr pa1, ii 2, rr pa2, ii 2, ii 11, ii 2, ii 91]) X4 d9_13 rfl rfl <| oi 17 X4 d9_15 rfl rfl <| o_sipush 20 (v := 255) X4 d9_17 rfl (by decide) <| oY 26 X4 d9_20 (by decide) (flt (by decide)).2.2.2 <| oA 27 X4 d9_26 rfl rfl <| oI 28 X4 d9_27 rfl rfl <| oi 30 X4 d9_28 rfl rfl <| o_i2b 31 (v := 91) X4 d9_30 rfl (by decide) ?_
  have f9 := C4.safe (own_lt (by omega)) f5
  refine sB 32 2 91 X4 V6 (by decide) (lb rfl) (by decide) d9_31 rfl (by omega) (Or.inl (by simp)) f9 ?_
  rintro _ _ X8 ⟨_, _, W8⟩ C8 V8
  have := W8.size
  have V10 := V8.as [.int (pi1.toInt8.toInt32), .int 32, .int 91, i0, i0, i0, i0, i0, i0, i0, i0] rfl
  refine oJ 35 3 #[rr pa1, ii 3, rr pa2, ii 2, ii 11, ii 2, ii 91] X8 d9_32 rfl rfl (by decide) rfl <| oJ 38 3 #[rr pa1, ii 3, rr pa2, ii 3, ii 11, ii 2, ii 91] X8 d9_35 rfl rfl (by decide) rfl <| oJ 41 3 #[rr pa1, ii 3, rr pa2, ii 3, ii 11, ii 3, ii 91] X8 d9_38 rfl rfl (by decide) rfl <| og 3 X8 d9_41 (by decide) <| oi 5 X8 d9_3 rfl rfl <| oi 7 X8 d9_5 rfl rfl <| oN 10 X8 d9_7 rfl (tlt (by decide)).2.1 <| oA 11 X8 d9_10 rfl rfl <| oI 12 X8 d9_11 rfl rfl ?_
  have f11 := f7.oth W8 (by omega)
  refine oC 13 (v := (.int pi2)) X8 f11 ⟨by decide, by decide⟩ rfl d9_12 rfl <| oS 15 (l' := #[rr pa1, ii 3, rr pa2, ii 3, ii 11, ii 3, ii pi2]) X8 d9_13 rfl rfl <| oi 17 X8 d9_15 rfl rfl <| o_sipush 20 (v := 255) X8 d9_17 rfl (by decide) <| oY 26 X8 d9_20 (by decide) (flt rg_pi2.2).2.2.2 <| oA 27 X8 d9_26 rfl rfl <| oI 28 X8 d9_27 rfl rfl <| oi 30 X8 d9_28 rfl rfl <| o_i2b 31 (v := (pi2.toInt8.toInt32)) X8 d9_30 rfl rfl ?_
  have f13 := C8.safe (own_lt (by omega)) f9
  refine sB 32 3 (pi2.toInt8.toInt32) X8 V10 (by decide) (lb rfl) (own_narB _) d9_31 rfl (by omega) (Or.inl (by simp)) f13 ?_
  rintro _ _ X12 ⟨_, _, W12⟩ C12 V12
  have := W12.size
  have V14 := V12.as [.int (pi1.toInt8.toInt32), .int 32, .int 91, .int (pi2.toInt8.toInt32), i0, i0, i0, i0, i0, i0, i0] rfl
  refine oJ 35 4 #[rr pa1, ii 4, rr pa2, ii 3, ii 11, ii 3, ii pi2] X12 d9_32 rfl rfl (by decide) rfl <| oJ 38 4 #[rr pa1, ii 4, rr pa2, ii 4, ii 11, ii 3, ii pi2] X12 d9_35 rfl rfl (by decide) rfl <| oJ 41 4 #[rr pa1, ii 4, rr pa2, ii 4, ii 11, ii 4, ii pi2] X12 d9_38 rfl rfl (by decide) rfl <| og 3 X12 d9_41 (by decide) <| oi 5 X12 d9_3 rfl rfl <| oi 7 X12 d9_5 rfl rfl <| oN 10 X12 d9_7 rfl (tlt (by decide)).2.1 <| oA 11 X12 d9_10 rfl rfl <| oI 12 X12 d9_11 rfl rfl ?_
  have f15 := f11.oth W12 (by omega)
  refine oC 13 (v := (.int 44)) X12 f15 ⟨by decide, by decide⟩ rfl d9_12 rfl <| oS 15 (l' := #[rr pa1, ii 4, rr pa2, ii 4, ii 11, ii 4, ii 44]) X12 d9_13 rfl rfl <| oi 17 X12 d9_15 rfl rfl <| o_sipush 20 (v := 255) X12 d9_17 rfl (by decide) <| oY 26 X12 d9_20 (by decide) (flt (by decide)).2.2.2 <| oA 27 X12 d9_26 rfl rfl <| oI 28 X12 d9_27 rfl rfl <| oi 30 X12 d9_28 rfl rfl <| o_i2b 31 (v := 44) X12 d9_30 rfl (by decide) ?_
  have f17 := C12.safe (own_lt (by omega)) f13
  refine sB 32 4 44 X12 V14 (by decide) (lb rfl) (by decide) d9_31 rfl (by omega) (Or.inl (by simp)) f17 ?_
  rintro _ _ X16 ⟨_, _, W16⟩ C16 V16
  have := W16.size
  have V18 := V16.as [.int (pi1.toInt8.toInt32), .int 32, .int 91, .int (pi2.toInt8.toInt32), .int 44, i0, i0, i0, i0, i0, i0] rfl
  refine oJ 35 5 #[rr pa1, ii 5, rr pa2, ii 4, ii 11, ii 4, ii 44] X16 d9_32 rfl rfl (by decide) rfl <| oJ 38 5 #[rr pa1, ii 5, rr pa2, ii 5, ii 11, ii 4, ii 44] X16 d9_35 rfl rfl (by decide) rfl <| oJ 41 5 #[rr pa1, ii 5, rr pa2, ii 5, ii 11, ii 5, ii 44] X16 d9_38 rfl rfl (by decide) rfl <| og 3 X16 d9_41 (by decide) <| oi 5 X16 d9_3 rfl rfl <| oi 7 X16 d9_5 rfl rfl <| oN 10 X16 d9_7 rfl (tlt (by decide)).2.1 <| oA 11 X16 d9_10 rfl rfl <| oI 12 X16 d9_11 rfl rfl ?_
  have f19 := f15.oth W16 (by omega)
  refine oC 13 (v := (.int 32)) X16 f19 ⟨by decide, by decide⟩ rfl d9_12 rfl <| oS 15 (l' := #[rr pa1, ii 5, rr pa2, ii 5, ii 11, ii 5, ii 32]) X16 d9_13 rfl rfl <| oi 17 X16 d9_15 rfl rfl <| o_sipush 20 (v := 255) X16 d9_17 rfl (by decide) <| oY 26 X16 d9_20 (by decide) (flt (by decide)).2.2.2 <| oA 27 X16 d9_26 rfl rfl <| oI 28 X16 d9_27 rfl rfl <| oi 30 X16 d9_28 rfl rfl <| o_i2b 31 (v := 32) X16 d9_30 rfl (by decide) ?_
  have f21 := C16.safe (own_lt (by omega)) f17
  refine sB 32 5 32 X16 V18 (by decide) (lb rfl) (by decide) d9_31 rfl (by omega) (Or.inl (by simp)) f21 ?_
  rintro _ _ X20 ⟨_, _, W20⟩ C20 V20
  have := W20.size
  have V22 := V20.as [.int (pi1.toInt8.toInt32), .int 32, .int 91, .int (pi2.toInt8.toInt32), .int 44, .int 32, i0, i0, i0, i0, i0] rfl
  refine oJ 35 6 #[rr pa1, ii 6, rr pa2, ii 5, ii 11, ii 5, ii 32] X20 d9_32 rfl rfl (by decide) rfl <| oJ 38 6 #[rr pa1, ii 6, rr pa2, ii 6, ii 11, ii 5, ii 32] X20 d9_35 rfl rfl (by decide) rfl <| oJ 41 6 #[rr pa1, ii 6, rr pa2, ii 6, ii 11, ii 6, ii 32] X20 d9_38 rfl rfl (by decide) rfl <| og 3 X20 d9_41 (by decide) <| oi 5 X20 d9_3 rfl rfl <| oi 7 X20 d9_5 rfl rfl <| oN 10 X20 d9_7 rfl (tlt (by decide)).2.1 <| oA 11 X20 d9_10 rfl rfl <| oI 12 X20 d9_11 rfl rfl ?_
  have f23 := f19.oth W20 (by omega)
  refine oC 13 (v := (.int pi3)) X20 f23 ⟨by decide, by decide⟩ rfl d9_12 rfl <| oS 15 (l' := #[rr pa1, ii 6, rr pa2, ii 6, ii 11, ii 6, ii pi3]) X20 d9_13 rfl rfl <| oi 17 X20 d9_15 rfl rfl <| o_sipush 20 (v := 255) X20 d9_17 rfl (by decide) <| oY 26 X20 d9_20 (by decide) (flt rg_pi3.2).2.2.2 <| oA 27 X20 d9_26 rfl rfl <| oI 28 X20 d9_27 rfl rfl <| oi 30 X20 d9_28 rfl rfl <| o_i2b 31 (v := (pi3.toInt8.toInt32)) X20 d9_30 rfl rfl ?_
  have f25 := C20.safe (own_lt (by omega)) f21
  refine sB 32 6 (pi3.toInt8.toInt32) X20 V22 (by decide) (lb rfl) (own_narB _) d9_31 rfl (by omega) (Or.inl (by simp)) f25 ?_
  rintro _ _ X24 ⟨_, _, W24⟩ C24 V24
  have := W24.size
  have V26 := V24.as [.int (pi1.toInt8.toInt32), .int 32, .int 91, .int (pi2.toInt8.toInt32), .int 44, .int 32, .int (pi3.toInt8.toInt32), i0, i0, i0, i0] rfl
  refine oJ 35 7 #[rr pa1, ii 7, rr pa2, ii 6, ii 11, ii 6, ii pi3] X24 d9_32 rfl rfl (by decide) rfl <| oJ 38 7 #[rr pa1, ii 7, rr pa2, ii 7, ii 11, ii 6, ii pi3] X24 d9_35 rfl rfl (by decide) rfl <| oJ 41 7 #[rr pa1, ii 7, rr pa2, ii 7, ii 11, ii 7, ii pi3] X24 d9_38 rfl rfl (by decide) rfl <| og 3 X24 d9_41 (by decide) <| oi 5 X24 d9_3 rfl rfl <| oi 7 X24 d9_5 rfl rfl <| oN 10 X24 d9_7 rfl (tlt (by decide)).2.1 <| oA 11 X24 d9_10 rfl rfl <| oI 12 X24 d9_11 rfl rfl ?_
  have f27 := f23.oth W24 (by omega)
  refine oC 13 (v := (.int 44)) X24 f27 ⟨by decide, by decide⟩ rfl d9_12 rfl <| oS 15 (l' := #[rr pa1, ii 7, rr pa2, ii 7, ii 11, ii 7, ii 44]) X24 d9_13 rfl rfl <| oi 17 X24 d9_15 rfl rfl <| o_sipush 20 (v := 255) X24 d9_17 rfl (by decide) <| oY 26 X24 d9_20 (by decide) (flt (by decide)).2.2.2 <| oA 27 X24 d9_26 rfl rfl <| oI 28 X24 d9_27 rfl rfl <| oi 30 X24 d9_28 rfl rfl <| o_i2b 31 (v := 44) X24 d9_30 rfl (by decide) ?_
  have f29 := C24.safe (own_lt (by omega)) f25
  refine sB 32 7 44 X24 V26 (by decide) (lb rfl) (by decide) d9_31 rfl (by omega) (Or.inl (by simp)) f29 ?_
  rintro _ _ X28 ⟨_, _, W28⟩ C28 V28
  have := W28.size
  have V30 := V28.as [.int (pi1.toInt8.toInt32), .int 32, .int 91, .int (pi2.toInt8.toInt32), .int 44, .int 32, .int (pi3.toInt8.toInt32), .int 44, i0, i0, i0] rfl
  refine oJ 35 8 #[rr pa1, ii 8, rr pa2, ii 7, ii 11, ii 7, ii 44] X28 d9_32 rfl rfl (by decide) rfl <| oJ 38 8 #[rr pa1, ii 8, rr pa2, ii 8, ii 11, ii 7, ii 44] X28 d9_35 rfl rfl (by decide) rfl <| oJ 41 8 #[rr pa1, ii 8, rr pa2, ii 8, ii 11, ii 8, ii 44] X28 d9_38 rfl rfl (by decide) rfl <| og 3 X28 d9_41 (by decide) <| oi 5 X28 d9_3 rfl rfl <| oi 7 X28 d9_5 rfl rfl <| oN 10 X28 d9_7 rfl (tlt (by decide)).2.1 <| oA 11 X28 d9_10 rfl rfl <| oI 12 X28 d9_11 rfl rfl ?_
  have f31 := f27.oth W28 (by omega)
  refine oC 13 (v := (.int 32)) X28 f31 ⟨by decide, by decide⟩ rfl d9_12 rfl <| oS 15 (l' := #[rr pa1, ii 8, rr pa2, ii 8, ii 11, ii 8, ii 32]) X28 d9_13 rfl rfl <| oi 17 X28 d9_15 rfl rfl <| o_sipush 20 (v := 255) X28 d9_17 rfl (by decide) <| oY 26 X28 d9_20 (by decide) (flt (by decide)).2.2.2 <| oA 27 X28 d9_26 rfl rfl <| oI 28 X28 d9_27 rfl rfl <| oi 30 X28 d9_28 rfl rfl <| o_i2b 31 (v := 32) X28 d9_30 rfl (by decide) ?_
  have f33 := C28.safe (own_lt (by omega)) f29
  refine sB 32 8 32 X28 V30 (by decide) (lb rfl) (by decide) d9_31 rfl (by omega) (Or.inl (by simp)) f33 ?_
  rintro _ _ X32 ⟨_, _, W32⟩ C32 V32
  have := W32.size
  have V34 := V32.as [.int (pi1.toInt8.toInt32), .int 32, .int 91, .int (pi2.toInt8.toInt32), .int 44, .int 32, .int (pi3.toInt8.toInt32), .int 44, .int 32, i0, i0] rfl
  refine oJ 35 9 #[rr pa1, ii 9, rr pa2, ii 8, ii 11, ii 8, ii 32] X32 d9_32 rfl rfl (by decide) rfl <| oJ 38 9 #[rr pa1, ii 9, rr pa2, ii 9, ii 11, ii 8, ii 32] X32 d9_35 rfl rfl (by decide) rfl <| oJ 41 9 #[rr pa1, ii 9, rr pa2, ii 9, ii 11, ii 9, ii 32] X32 d9_38 rfl rfl (by decide) rfl <| og 3 X32 d9_41 (by decide) <| oi 5 X32 d9_3 rfl rfl <| oi 7 X32 d9_5 rfl rfl <| oN 10 X32 d9_7 rfl (tlt (by decide)).2.1 <| oA 11 X32 d9_10 rfl rfl <| oI 12 X32 d9_11 rfl rfl ?_
  have f35 := f31.oth W32 (by omega)
  refine oC 13 (v := (.int pi4)) X32 f35 ⟨by decide, by decide⟩ rfl d9_12 rfl <| oS 15 (l' := #[rr pa1, ii 9, rr pa2, ii 9, ii 11, ii 9, ii pi4]) X32 d9_13 rfl rfl <| oi 17 X32 d9_15 rfl rfl <| o_sipush 20 (v := 255) X32 d9_17 rfl (by decide) <| oY 26 X32 d9_20 (by decide) (flt rg_pi4.2).2.2.2 <| oA 27 X32 d9_26 rfl rfl <| oI 28 X32 d9_27 rfl rfl <| oi 30 X32 d9_28 rfl rfl <| o_i2b 31 (v := (pi4.toInt8.toInt32)) X32 d9_30 rfl rfl ?_
  have f37 := C32.safe (own_lt (by omega)) f33
  refine sB 32 9 (pi4.toInt8.toInt32) X32 V34 (by decide) (lb rfl) (own_narB _) d9_31 rfl (by omega) (Or.inl (by simp)) f37 ?_
  rintro _ _ X36 ⟨_, _, W36⟩ C36 V36
  have := W36.size
  have V38 := V36.as [.int (pi1.toInt8.toInt32), .int 32, .int 91, .int (pi2.toInt8.toInt32), .int 44, .int 32, .int (pi3.toInt8.toInt32), .int 44, .int 32, .int (pi4.toInt8.toInt32), i0] rfl
  refine oJ 35 10 #[rr pa1, ii 10, rr pa2, ii 9, ii 11, ii 9, ii pi4] X36 d9_32 rfl rfl (by decide) rfl <| oJ 38 10 #[rr pa1, ii 10, rr pa2, ii 10, ii 11, ii 9, ii pi4] X36 d9_35 rfl rfl (by decide) rfl <| oJ 41 10 #[rr pa1, ii 10, rr pa2, ii 10, ii 11, ii 10, ii pi4] X36 d9_38 rfl rfl (by decide) rfl <| og 3 X36 d9_41 (by decide) <| oi 5 X36 d9_3 rfl rfl <| oi 7 X36 d9_5 rfl rfl <| oN 10 X36 d9_7 rfl (tlt (by decide)).2.1 <| oA 11 X36 d9_10 rfl rfl <| oI 12 X36 d9_11 rfl rfl ?_
  have f39 := f35.oth W36 (by omega)
  refine oC 13 (v := (.int 93)) X36 f39 ⟨by decide, by decide⟩ rfl d9_12 rfl <| oS 15 (l' := #[rr pa1, ii 10, rr pa2, ii 10, ii 11, ii 10, ii 93]) X36 d9_13 rfl rfl <| oi 17 X36 d9_15 rfl rfl <| o_sipush 20 (v := 255) X36 d9_17 rfl (by decide) <| oY 26 X36 d9_20 (by decide) (flt (by decide)).2.2.2 <| oA 27 X36 d9_26 rfl rfl <| oI 28 X36 d9_27 rfl rfl <| oi 30 X36 d9_28 rfl rfl <| o_i2b 31 (v := 93) X36 d9_30 rfl (by decide) ?_
  have f41 := C36.safe (own_lt (by omega)) f37
  refine sB 32 10 93 X36 V38 (by decide) (lb rfl) (by decide) d9_31 rfl (by omega) (Or.inl (by simp)) f41 ?_
  rintro _ _ X40 ⟨_, _, W40⟩ _ V40
  have := W40.size
  have V42 := V40.as [.int (pi1.toInt8.toInt32), .int 32, .int 91, .int (pi2.toInt8.toInt32), .int 44, .int 32, .int (pi3.toInt8.toInt32), .int 44, .int 32, .int (pi4.toInt8.toInt32), .int 93] rfl
  refine oJ 35 11 #[rr pa1, ii 11, rr pa2, ii 10, ii 11, ii 10, ii 93] X40 d9_32 rfl rfl (by decide) rfl <| oJ 38 11 #[rr pa1, ii 11, rr pa2, ii 11, ii 11, ii 10, ii 93] X40 d9_35 rfl rfl (by decide) rfl <| oJ 41 11 #[rr pa1, ii 11, rr pa2, ii 11, ii 11, ii 11, ii 93] X40 d9_38 rfl rfl (by decide) rfl <| og 3 X40 d9_41 (by decide) <| oi 5 X40 d9_3 rfl rfl <| oi 7 X40 d9_5 rfl rfl <| oY 44 X40 d9_7 (by decide) (flt (by decide)).2.1 <| oi 46 X40 d9_44 rfl rfl ?_
  have f43 := ((((((((((F2.wr W1).wr W4).wr W8).wr W12).wr W16).wr W20).wr W24).wr W28).wr W32).wr W36).wr W40
  exact o_iret X40 d9_46 rfl (by decide) (by decide) (fun _ CC => ⟨rfl, V42, f43⟩)
def Q85 (Z : State) (b1 b2 b3 b4 : Int32) (h0 : Heap) (v : Option Value) (h : Heap) (vm : Vm) : Prop := ∃ (xa1 : Addr) (xk1 : ClassId), v = some (.ref xa1) ∧ av0 Z h xa1 xk1 11 [.int (b1.toInt8.toInt32), .int 32, .int 91, .int (b2.toInt8.toInt32), .int 44, .int 32, .int (b3.toInt8.toInt32), .int 44, .int 32, .int (b4.toInt8.toInt32), .int 93] ∧ ex0 Z h xa1 ∧ Safe Z EL0 vm h xa1 ∧ h0.size ≤ xa1 ∧ h.size > xa1
theorem rm_au163 (G : GL l Z a0 zc dce kdce eed keed mroa mral mrul mrur) (F0 : av1 Z h0 pa1 pk1 11 [.int pi1, .int 32, .int 91, .int pi2, .int 44, .int 32, .int pi3, .int 44, .int 32, .int pi4, .int 93]) (rg_pi1 : ¬ pi1 < 0 ∧ ¬ (255 : Int32) < pi1) (rg_pi2 : ¬ pi2 < 0 ∧ ¬ (255 : Int32) < pi2) (rg_pi3 : ¬ pi3 < 0 ∧ ¬ (255 : Int32) < pi3) (rg_pi4 : ¬ pi4 < 0 ∧ ¬ (255 : Int32) < pi4) : M8 l Z 1 1 11 18 #[.ref pa1, i0, .int 11] h0 n0 [] [] (Q85 Z pi1 pi2 pi3 pi4 h0) := by
  refine mi B8 ef6 (hEW G) fun s X0 hsf0 n0le => ?_
  have l1 := F0.l
  refine oI 1 X0 d8_0 rfl rfl <| nP (aty := .byte) 3 11 X0 (w14 G) d8_1 rfl (by decide) had_byte ?_
  intro _ h1 b1 k1 X1 _ l1 E1 V1 A1 _ S1
  have V2 : av0 Z h1 b1 k1 11 [i0, i0, i0, i0, i0, i0, i0, i0, i0, i0, i0] := V1.pad (pad_rep [] (.int (0 : Int32)) 11)
  refine oV 4 (l' := #[rr pa1, ii 0, ii 11, rr b1, uu, uu]) X1 d8_3 rfl rfl rfl <| oA 5 X1 d8_4 rfl rfl <| oI 6 X1 d8_5 rfl rfl <| oA 7 X1 d8_6 rfl rfl <| oc 8 (v := 0) X1 d8_7 rfl (by decide) <| oI 9 X1 d8_8 rfl rfl ?_
  have f3 := F0.ext E1
  refine mS 12 0 X1 (rm_au162 G f3 V2 A1 rg_pi1 rg_pi2 rg_pi3 rg_pi4 (by omega)) (u4 G) (sS (by omega) S1 all0) d8_9 rfl rfl rfl lr (by decide) (aR (by omega) all0) ?_
  rintro _ _ _ _ X4 ⟨rfl, q5, q6⟩ _ _ C4
  refine sk [.int 11] rfl <| oS 14 (l' := #[rr pa1, ii 0, ii 11, rr b1, ii 11, uu]) X4 d8_12 rfl rfl <| oi 16 X4 d8_14 rfl rfl <| oI 17 X4 d8_16 rfl rfl <| oY 57 X4 d8_17 (by decide) (teq (by decide)).1 <| oA 58 X4 d8_57 rfl rfl ?_
  have f7 := C4.safe (own_lt (by omega)) S1
  exact oR X4 d8_58 rfl rfl rfl (by decide) (by decide) (fun _ CC => ⟨b1, k1, rfl, q5, q6, (CC.safe (own_lt (by omega)) f7), by omega⟩)
theorem rm_au164 (G : GL l Z a0 zc dce kdce eed keed mroa mral mrul mrur) (F0 : av0 Z h0 pa1 pk1 11 ps_pa1) : M10 l Z 0 0 0 0 #[.ref pa1, .int 11] h0 n0 [] [] (Q6 Z  h0) := by
  refine mi B10 ef8 (hEW G) fun s X0 hsf0 n0le => ?_
  have := F0.l
  refine oI 1 X0 d10_0 rfl rfl <| oA 2 X0 d10_1 rfl rfl <| oL 3 X0 F0 d10_2 rfl <| o_isub 4 (v := 0) X0 d10_3 rfl (by decide) <| ob 6 (v := 31) X0 d10_4 rfl (by decide) <| o_iushr 7 (v := 0) X0 d10_6 rfl (by decide) <| o_i2b 8 (v := 0) X0 d10_7 rfl (by decide) ?_
  exact o_nret (y := (0 : Int32)) (t := .byte) X0 d10_8 rfl (by decide) (by simp) (by decide) (by decide) (fun _ CC => rfl)
def Q86 (Z : State) (b1 : Addr) (b2 b3 b4 b5 : Int32) (h0 : Heap) (v : Option Value) (h : Heap) (vm : Vm) : Prop := ∃ (xa1 : Addr) (xk1 : ClassId), v = none ∧ ex1 Z h b1 ∧ fd1 Z h b1 (.int 0) ∧ fd0 Z h b1 (.ref xa1) ∧ av0 Z h xa1 xk1 11 [.int (b2.toInt8.toInt32), .int 32, .int 91, .int (b3.toInt8.toInt32), .int 44, .int 32, .int (b4.toInt8.toInt32), .int 44, .int 32, .int (b5.toInt8.toInt32), .int 93] ∧ ex0 Z h xa1 ∧ Safe Z EL0 vm h xa1 ∧ h0.size ≤ xa1 ∧ h.size > xa1
theorem rm_au165 (G : GL l Z a0 zc dce kdce eed keed mroa mral mrul mrur) (F0 : ex1 Z h0 pa1) (F1 : fd1 Z h0 pa1 (.int pi1)) (F2 : fd0 Z h0 pa1 .null) (F3 : av1 Z h0 pa2 pk1 11 [.int pi2, .int 32, .int 91, .int pi3, .int 44, .int 32, .int pi4, .int 44, .int 32, .int pi5, .int 93]) (rg_pi2 : ¬ pi2 < 0 ∧ ¬ (255 : Int32) < pi2) (rg_pi3 : ¬ pi3 < 0 ∧ ¬ (255 : Int32) < pi3) (rg_pi4 : ¬ pi4 < 0 ∧ ¬ (255 : Int32) < pi4) (rg_pi5 : ¬ pi5 < 0 ∧ ¬ (255 : Int32) < pi5) (ne : NE pa1 pa2 ∧ n0 ≤ pa1) : M7 l Z 2 1 11 35 #[.ref pa1, .ref pa2, i0, .int 11, .null] h0 n0 [pa1] [pa1] (Q86 Z pa1 pi2 pi3 pi4 pi5 h0) := by
  refine mi B7 ef5 (hEW G) fun s X0 hsf0 n0le => ?_
  have := F0.l
  have := F3.l
  have sf_pa1 := hsf0 pa1 (by simp)
  refine oA 1 X0 d7_0 rfl rfl <| o_initO 4 (W := 0) X0 (w19 G) (w20 G) (w21 G) rfl (by decide) (Nat.le_of_eq rfl) (by decide) d7_1 rfl ?_
  intro _ X2
  refine oI 5 X2 d7_4 rfl rfl <| oy 27 X2 d7_5 (by decide) ((if0 _ _).trans (feq (by decide)).2) <| oG 30 X2 (w4 G) Via.refl ((sg10 G).ext X2.old.2) d7_27 rfl ?_
  intro _ X4
  refine on 33 X4 d7_30 rfl ((if0 _ _).trans (feq (hzc G)).1) <| oA 34 X4 d7_33 rfl rfl <| oI 35 X4 d7_34 rfl rfl <| oI 36 X4 d7_35 rfl rfl <| mS 39 0 X4 (rm_au163 G F3 rg_pi2 rg_pi3 rg_pi4 rg_pi5) (u5 G) all0 d7_36 rfl rfl rfl lr (by decide) all0 ?_
  rintro _ _ _ _ X5 ⟨xa1_6, xk1_7, rfl, q8, q9, q10, _⟩ K5 _ C5
  refine sk [.ref xa1_6] rfl <| oU 41 (l' := #[rr pa1, rr pa2, ii 0, ii 11, .val .null, rr xa1_6]) X5 d7_39 rfl rfl rfl <| oA 42 X5 d7_41 rfl rfl <| oa 44 X5 d7_42 rfl rfl <| oI 45 X5 d7_44 rfl rfl <| mS 48 1 X5 (rm_au164 G q8) (u6 G) all0 d7_45 rfl rfl rfl lr (by decide) all0 ?_
  rintro _ _ _ _ X12 rfl K12 _ C12
  refine sk [i0, .ref pa1] rfl ?_
  have f13 := (F1.k0 K5).k0 K12
  have f14 := (F0.keep K5).keep K12
  have f16 := C12.safe (own_lt (by omega)) (C5.safe (own_lt (by omega)) sf_pa1)
  refine oP 51 (v' := (.int 0)) X12 (w24 G) Via.refl f13 f14 (Or.inr ⟨(w25 G), rfl, rfl⟩) (w10 G) fd_1 rfl rfl d7_48 rfl (by omega) (Or.inl (by simp)) f16 ?_
  intro _ _ X15 W15 C15
  have := W15.size
  have f17 := f13.same W15
  refine oA 52 X15 d7_51 rfl rfl <| oa 54 X15 d7_52 rfl rfl ?_
  have f18 := ((F2.k0 K5).k0 K12).other W15 (Or.inr (sn1 G))
  have f19 := f14.wr W15
  have f21 := C15.safe (own_lt (by omega)) f16
  refine oP 57 (v' := (.ref xa1_6)) X15 (w22 G) Via.refl f18 f19 (Or.inr ⟨(w23 G), rfl, rfl⟩) (w10 G) fd_0 rfl rfl d7_54 rfl (by omega) (Or.inl (by simp)) f21 ?_
  intro _ _ X20 W20 C20
  have := W20.size
  have f22 := f18.same W20
  have f23 := f19.wr W20
  have f24 := f17.other W20 (Or.inr (sn0 G))
  have f25 := ((q8.k0 K12).oth W15 (by omega)).oth W20 (by omega)
  have f26 := ((q9.keep K12).wr W15).wr W20
  have f27 := C20.safe (own_lt (by omega)) (C15.safe (own_lt (by omega)) (C12.safe (own_lt (by omega)) q10))
  exact oz X20 d7_57 rfl (by decide) (by decide) (fun _ CC => ⟨xa1_6, xk1_7, rfl, f23, f24, f22, f25, f26, (CC.safe (own_lt (by omega)) f27), by omega⟩)
theorem rm_au166 (G : GL l Z a0 zc dce kdce eed keed mroa mral mrul mrur) (F0 : ex1 Z h0 pa1) (F1 : fd1 Z h0 pa1 (.int pi100)) (F2 : fd0 Z h0 pa1 .null) (F3 : av1 Z h0 pa2 pk1 11 [.int pi1, .int 32, .int 91, .int pi2, .int 44, .int 32, .int pi3, .int 44, .int 32, .int pi4, .int 93]) (rg_pi1 : ¬ pi1 < 0 ∧ ¬ (255 : Int32) < pi1) (rg_pi2 : ¬ pi2 < 0 ∧ ¬ (255 : Int32) < pi2) (rg_pi3 : ¬ pi3 < 0 ∧ ¬ (255 : Int32) < pi3) (rg_pi4 : ¬ pi4 < 0 ∧ ¬ (255 : Int32) < pi4) (ne : NE pa1 pa2 ∧ n0 ≤ pa1) : M6 l Z 3 1 11 52 #[.ref pa1, .ref pa2] h0 n0 [pa1] [pa1] (Q86 Z pa1 pi1 pi2 pi3 pi4 h0) := by
  refine mi B6 ef4 (hEW G) fun s X0 hsf0 n0le => ?_
  have := F0.l
  have := F3.l
  have sf_pa1 := hsf0 pa1 (by simp)
  refine oA 1 X0 d6_0 rfl rfl <| oA 2 X0 d6_1 rfl rfl <| oc 3 (v := 0) X0 d6_2 rfl (by decide) <| oA 4 X0 d6_3 rfl rfl <| oL 5 X0 F3 d6_4 rfl <| o_aconstNull 6 X0 d6_5 rfl <| mP 9 0 X0 (rm_au165 G F0 F1 F2 F3 rg_pi1 rg_pi2 rg_pi3 rg_pi4 (by omega)) (u7 G) (sS (by omega) sf_pa1 all0) d6_6 rfl rfl rfl lr (by decide) (aI (by omega) (by simp) all0) ?_
  rintro _ _ _ _ X1 ⟨xa1_2, xk1_3, rfl, q4, q5, q6, q7, q8, q9, _⟩ _ _ _
  refine sk [] rfl ?_
  exact oz X1 d6_9 rfl (by decide) (by decide) (fun _ CC => ⟨xa1_2, xk1_3, rfl, q4, q5, q6, q7, q8, (CC.safe (own_lt (by omega)) q9), by omega⟩)
def Q87 (Z : State) (b1 b2 b3 b4 : Int32) (h0 : Heap) (v : Option Value) (h : Heap) (vm : Vm) : Prop := ∃ (xa1 : Addr) (xa2 : Addr) (xk1 : ClassId), v = some (.ref xa1) ∧ ex1 Z h xa1 ∧ fd1 Z h xa1 (.int 0) ∧ fd0 Z h xa1 (.ref xa2) ∧ Safe Z EL0 vm h xa1 ∧ av0 Z h xa2 xk1 11 [.int (b1.toInt8.toInt32), .int 32, .int 91, .int (b2.toInt8.toInt32), .int 44, .int 32, .int (b3.toInt8.toInt32), .int 44, .int 32, .int (b4.toInt8.toInt32), .int 93] ∧ ex0 Z h xa2 ∧ Safe Z EL0 vm h xa2 ∧ h0.size ≤ xa1 ∧ h.size > xa1 ∧ h0.size ≤ xa2 ∧ h.size > xa2 ∧ NE xa1 xa2
theorem rm_au167 (G : GL l Z a0 zc dce kdce eed keed mroa mral mrul mrur) (rg_pi1 : ¬ pi1 < 0 ∧ ¬ (255 : Int32) < pi1) (rg_pi2 : ¬ pi2 < 0 ∧ ¬ (255 : Int32) < pi2) (rg_pi3 : ¬ pi3 < 0 ∧ ¬ (255 : Int32) < pi3) (rg_pi4 : ¬ pi4 < 0 ∧ ¬ (255 : Int32) < pi4) (pc_0 : ¬ pi100 = (0 : Int32)) (pc_1 : ¬ pi100 = (1 : Int32)) (pc_2 : ¬ pi100 = (2 : Int32)) : M5 l Z 4 3 26 66 #[.int pi100, .int pi1, .int pi2, .int pi3, .int pi4] h0 n0 [] [] (Q87 Z pi1 pi2 pi3 pi4 h0) := by
  refine mi B5 ef3 (hEW G) fun s X0 hsf0 n0le => ?_
  refine oI 1 X0 d5_0 rfl rfl <| oy 34 X0 d5_1 (by decide) ((if0 _ _).trans (feq pc_0).2) <| oI 35 X0 d5_34 rfl rfl <| oc 36 (v := 1) X0 d5_35 rfl (by decide) <| oY 73 X0 d5_36 (by decide) (feq pc_1).2 <| oI 74 X0 d5_73 rfl rfl <| oc 75 (v := 2) X0 d5_74 rfl (by decide) <| oY 129 X0 d5_75 (by decide) (feq pc_2).2 <| o_new 132 X0 (w30 G) (w10 G) (w2 G) d5_129 rfl (by decide) (by decide) ?_
  intro _ h1 b1 X1 _ _ _ A1 D1 _ _ S1
  have f2 : fd0 Z h1 b1 .null := D1 (Or.inr (w23 G)) fd_0
  have f3 : fd1 Z h1 b1 (.int 0) := D1 (Or.inr (w25 G)) fd_1
  refine oD 133 X1 d5_132 rfl rfl <| ob 135 (v := 11) X1 d5_133 rfl (by decide) <| nP (aty := .char) 137 11 X1 (w31 G) d5_135 rfl (by decide) had_char ?_
  intro _ h4 b4 k4 X4 _ _ E4 V4 A4 C4 _
  have V5 : av1 Z h4 b4 k4 11 [i0, i0, i0, i0, i0, i0, i0, i0, i0, i0, i0] := V4.pad (pad_rep [] (.int (0 : Int32)) 11)
  refine oD 138 X4 d5_137 rfl rfl <| oc 139 (v := 0) X4 d5_138 rfl (by decide) <| oI 140 X4 d5_139 rfl rfl <| sC 141 0 pi1 X4 V5 (by decide) (lb rfl) (own_narC rg_pi1) d5_140 rfl (by omega) (Or.inr (by omega)) (sx X4 A4 nc0) ?_
  rintro _ _ X6 ⟨_, _, W6⟩ C6 V6
  have := W6.size
  have V7 := V6.as [.int pi1, i0, i0, i0, i0, i0, i0, i0, i0, i0, i0] rfl
  refine oD 142 X6 d5_141 rfl rfl <| oc 143 (v := 1) X6 d5_142 rfl (by decide) <| ob 145 (v := 32) X6 d5_143 rfl (by decide) ?_
  have f9 := A4.wr W6
  refine sC 146 1 32 X6 V7 (by decide) (lb rfl) (by decide) d5_145 rfl (by omega) (Or.inr (by omega)) (sx X6 f9 nc0) ?_
  rintro _ _ X8 ⟨_, _, W8⟩ C8 V8
  have := W8.size
  have V10 := V8.as [.int pi1, .int 32, i0, i0, i0, i0, i0, i0, i0, i0, i0] rfl
  refine oD 147 X8 d5_146 rfl rfl <| oc 148 (v := 2) X8 d5_147 rfl (by decide) <| ob 150 (v := 91) X8 d5_148 rfl (by decide) ?_
  have f12 := f9.wr W8
  refine sC 151 2 91 X8 V10 (by decide) (lb rfl) (by decide) d5_150 rfl (by omega) (Or.inr (by omega)) (sx X8 f12 nc0) ?_
  rintro _ _ X11 ⟨_, _, W11⟩ C11 V11
  have := W11.size
  have V13 := V11.as [.int pi1, .int 32, .int 91, i0, i0, i0, i0, i0, i0, i0, i0] rfl
  refine oD 152 X11 d5_151 rfl rfl <| oc 153 (v := 3) X11 d5_152 rfl (by decide) <| oI 154 X11 d5_153 rfl rfl ?_
  have f15 := f12.wr W11
  refine sC 155 3 pi2 X11 V13 (by decide) (lb rfl) (own_narC rg_pi2) d5_154 rfl (by omega) (Or.inr (by omega)) (sx X11 f15 nc0) ?_
  rintro _ _ X14 ⟨_, _, W14⟩ C14 V14
  have := W14.size
  have V16 := V14.as [.int pi1, .int 32, .int 91, .int pi2, i0, i0, i0, i0, i0, i0, i0] rfl
  refine oD 156 X14 d5_155 rfl rfl <| oc 157 (v := 4) X14 d5_156 rfl (by decide) <| ob 159 (v := 44) X14 d5_157 rfl (by decide) ?_
  have f18 := f15.wr W14
  refine sC 160 4 44 X14 V16 (by decide) (lb rfl) (by decide) d5_159 rfl (by omega) (Or.inr (by omega)) (sx X14 f18 nc0) ?_
  rintro _ _ X17 ⟨_, _, W17⟩ C17 V17
  have := W17.size
  have V19 := V17.as [.int pi1, .int 32, .int 91, .int pi2, .int 44, i0, i0, i0, i0, i0, i0] rfl
  refine oD 161 X17 d5_160 rfl rfl <| oc 162 (v := 5) X17 d5_161 rfl (by decide) <| ob 164 (v := 32) X17 d5_162 rfl (by decide) ?_
  have f21 := f18.wr W17
  refine sC 165 5 32 X17 V19 (by decide) (lb rfl) (by decide) d5_164 rfl (by omega) (Or.inr (by omega)) (sx X17 f21 nc0) ?_
  rintro _ _ X20 ⟨_, _, W20⟩ C20 V20
  have := W20.size
  have V22 := V20.as [.int pi1, .int 32, .int 91, .int pi2, .int 44, .int 32, i0, i0, i0, i0, i0] rfl
  refine oD 166 X20 d5_165 rfl rfl <| ob 168 (v := 6) X20 d5_166 rfl (by decide) <| oI 169 X20 d5_168 rfl rfl ?_
  have f24 := f21.wr W20
  refine sC 170 6 pi3 X20 V22 (by decide) (lb rfl) (own_narC rg_pi3) d5_169 rfl (by omega) (Or.inr (by omega)) (sx X20 f24 nc0) ?_
  rintro _ _ X23 ⟨_, _, W23⟩ C23 V23
  have := W23.size
  have V25 := V23.as [.int pi1, .int 32, .int 91, .int pi2, .int 44, .int 32, .int pi3, i0, i0, i0, i0] rfl
  refine oD 171 X23 d5_170 rfl rfl <| ob 173 (v := 7) X23 d5_171 rfl (by decide) <| ob 175 (v := 44) X23 d5_173 rfl (by decide) ?_
  have f27 := f24.wr W23
  refine sC 176 7 44 X23 V25 (by decide) (lb rfl) (by decide) d5_175 rfl (by omega) (Or.inr (by omega)) (sx X23 f27 nc0) ?_
  rintro _ _ X26 ⟨_, _, W26⟩ C26 V26
  have := W26.size
  have V28 := V26.as [.int pi1, .int 32, .int 91, .int pi2, .int 44, .int 32, .int pi3, .int 44, i0, i0, i0] rfl
  refine oD 177 X26 d5_176 rfl rfl <| ob 179 (v := 8) X26 d5_177 rfl (by decide) <| ob 181 (v := 32) X26 d5_179 rfl (by decide) ?_
  have f30 := f27.wr W26
  refine sC 182 8 32 X26 V28 (by decide) (lb rfl) (by decide) d5_181 rfl (by omega) (Or.inr (by omega)) (sx X26 f30 nc0) ?_
  rintro _ _ X29 ⟨_, _, W29⟩ C29 V29
  have := W29.size
  have V31 := V29.as [.int pi1, .int 32, .int 91, .int pi2, .int 44, .int 32, .int pi3, .int 44, .int 32, i0, i0] rfl
  refine oD 183 X29 d5_182 rfl rfl <| ob 185 (v := 9) X29 d5_183 rfl (by decide) <| oi 187 X29 d5_185 rfl rfl ?_
  have f33 := f30.wr W29
  refine sC 188 9 pi4 X29 V31 (by decide) (lb rfl) (own_narC rg_pi4) d5_187 rfl (by omega) (Or.inr (by omega)) (sx X29 f33 nc0) ?_
  rintro _ _ X32 ⟨_, _, W32⟩ C32 V32
  have := W32.size
  have V34 := V32.as [.int pi1, .int 32, .int 91, .int pi2, .int 44, .int 32, .int pi3, .int 44, .int 32, .int pi4, i0] rfl
  refine oD 189 X32 d5_188 rfl rfl <| ob 191 (v := 10) X32 d5_189 rfl (by decide) <| ob 193 (v := 93) X32 d5_191 rfl (by decide) ?_
  have f36 := f33.wr W32
  refine sC 194 10 93 X32 V34 (by decide) (lb rfl) (by decide) d5_193 rfl (by omega) (Or.inr (by omega)) (sx X32 f36 nc0) ?_
  rintro _ _ X35 ⟨_, _, W35⟩ C35 V35
  have := W35.size
  have V37 := V35.as [.int pi1, .int 32, .int 91, .int pi2, .int 44, .int 32, .int pi3, .int 44, .int 32, .int pi4, .int 93] rfl
  have f38 := (((((((((((A1.ext E4).wr W6).wr W8).wr W11).wr W14).wr W17).wr W20).wr W23).wr W26).wr W29).wr W32).wr W35
  have f39 := (((((((((((f3.ext E4).oth W6 (by omega)).oth W8 (by omega)).oth W11 (by omega)).oth W14 (by omega)).oth W17 (by omega)).oth W20 (by omega)).oth W23 (by omega)).oth W26 (by omega)).oth W29 (by omega)).oth W32 (by omega)).oth W35 (by omega)
  have f40 := (((((((((((f2.ext E4).oth W6 (by omega)).oth W8 (by omega)).oth W11 (by omega)).oth W14 (by omega)).oth W17 (by omega)).oth W20 (by omega)).oth W23 (by omega)).oth W26 (by omega)).oth W29 (by omega)).oth W32 (by omega)).oth W35 (by omega)
  have f41 := C35.safe (own_lt (by omega)) (C32.safe (own_lt (by omega)) (C29.safe (own_lt (by omega)) (C26.safe (own_lt (by omega)) (C23.safe (own_lt (by omega)) (C20.safe (own_lt (by omega)) (C17.safe (own_lt (by omega)) (C14.safe (own_lt (by omega)) (C11.safe (own_lt (by omega)) (C8.safe (own_lt (by omega)) (C6.safe (own_lt (by omega)) (C4.safe (own_lt (by omega)) S1)))))))))))
  refine mP 197 1 X35 (rm_au166 G f38 f39 f40 V37 rg_pi1 rg_pi2 rg_pi3 rg_pi4 (by omega)) (u8 G) (sS (by omega) f41 all0) d5_194 rfl rfl rfl lr (by decide) (aR (by omega) all0) ?_
  rintro _ _ _ _ X42 ⟨xa1_43, xk1_44, rfl, q45, q46, q47, q48, q49, q50, _⟩ _ _ C42
  refine sk [.ref b1] rfl ?_
  have f52 := C42.safe (own_lt (by omega)) f41
  exact oR X42 d5_197 rfl rfl rfl (by decide) (by decide) (fun _ CC => ⟨b1, xa1_43, xk1_44, rfl, q45, q46, q47, (CC.safe (own_lt (by omega)) f52), q48, q49, (CC.safe (own_lt (by omega)) q50), by omega⟩)
def Q88 (Z : State) (b1 b2 : Addr) (b3 : ClassId) (b4 b5 b6 : Addr) (h0 : Heap) (v : Option Value) (h : Heap) (vm : Vm) : Prop := v = none ∧ ex2 Z h b1 ∧ fd3 Z h b1 (.ref b2) ∧ fd2 Z h b1 (.int 3) ∧ fd4 Z h b1 (.int 3) ∧ av2 Z h b2 b3 10 [.ref b4, .ref b5, .ref b6, .null, .null, .null, .null, .null, .null, .null] ∧ ex3 Z h b2 ∧ Ovr Z b3 "java/lang/Object"
theorem rm_au168 (G : GL l Z a0 zc dce kdce eed keed mroa mral mrul mrur) (F0 : ex2 Z h0 pa1) (F1 : fd3 Z h0 pa1 (.ref pa3)) (F2 : fd2 Z h0 pa1 (.int 3)) (F3 : fd4 Z h0 pa1 (.int 2)) (F4 : ex1 Z h0 pa2) (F5 : av2 Z h0 pa3 pk1 10 [.ref pa5, .ref pa6, .null, .null, .null, .null, .null, .null, .null, .null]) (F6 : ex3 Z h0 pa3) (F7 : Ovr Z pk1 "java/lang/Object") (ne : NE pa1 pa2 ∧ NE pa1 pa3 ∧ NE pa2 pa3 ∧ n0 ≤ pa1 ∧ n0 ≤ pa3) : M55 l Z 0 0 0 0 #[.ref pa1, .ref pa2, .ref pa3, .int 2] h0 n0 [pa1, pa3] [] (Q88 Z pa1 pa3 pk1 pa5 pa6 pa2 h0) := by
  refine mi B55 ef21 (hEW G) fun s X0 hsf0 n0le => ?_
  have := F0.l
  have := F4.l
  have := F5.l
  refine oI 1 X0 d55_0 rfl rfl <| oA 2 X0 d55_1 rfl rfl <| oL 3 X0 F5 d55_2 rfl <| oY 11 X0 d55_3 (by decide) (feq (by decide)).2 <| oA 12 X0 d55_11 rfl rfl <| oI 13 X0 d55_12 rfl rfl <| oA 14 X0 d55_13 rfl rfl <| o_stR 15 (i := 2) X0 F5 rfl (own_sto F5 F7 F4 (w361 G)) rfl ⟨by decide, by decide⟩ (by decide) (Nat.le_of_ble_eq_true rfl) d55_14 rfl (by omega) (Or.inl (by simp)) (sx X0 F6 nc3) ?_
  rintro _ _ X1 ⟨_, _, W1⟩ _ V1
  have := W1.size
  have V2 := V1.as [.ref pa5, .ref pa6, .ref pa2, .null, .null, .null, .null, .null, .null, .null] rfl
  refine oA 16 X1 d55_15 rfl rfl <| oI 17 X1 d55_16 rfl rfl <| oc 18 (v := 1) X1 d55_17 rfl (by decide) <| o_iadd 19 (v := 3) X1 d55_18 rfl (by decide) ?_
  have f3 := F3.oth W1 (by omega)
  have f4 := F0.wr W1
  refine oP 22 (v' := (.int 3)) X1 (w94 G) Via.refl f3 f4 (Or.inl (w95 G)) (w49 G) fd_2 rfl rfl d55_19 rfl (by omega) (Or.inl (by simp)) (sx X1 f4 nc1) ?_
  intro _ _ X5 W5 _
  have := W5.size
  have f6 := f3.same W5
  have f7 := f4.wr W5
  have f8 := (F1.oth W1 (by omega)).other W5 (Or.inr (sn6 G))
  have f9 := (F2.oth W1 (by omega)).other W5 (Or.inr (sn7 G))
  have f10 := V2.oth W5 (by omega)
  have f11 := (F6.wr W1).wr W5
  exact oz X5 d55_22 rfl (by decide) (by decide) (fun _ CC => ⟨rfl, f7, f8, f9, f6, f10, f11, F7⟩)
def Q89 (Z : State) (b1 b2 : Addr) (b3 : ClassId) (b4 b5 b6 : Addr) (h0 : Heap) (v : Option Value) (h : Heap) (vm : Vm) : Prop := v = some (.int 1) ∧ ex2 Z h b1 ∧ fd3 Z h b1 (.ref b2) ∧ fd2 Z h b1 (.int 3) ∧ fd4 Z h b1 (.int 3) ∧ av2 Z h b2 b3 10 [.ref b4, .ref b5, .ref b6, .null, .null, .null, .null, .null, .null, .null] ∧ ex3 Z h b2 ∧ Ovr Z b3 "java/lang/Object"
theorem rm_au169 (G : GL l Z a0 zc dce kdce eed keed mroa mral mrul mrur) (F0 : ex2 Z h0 pa1) (F1 : fd3 Z h0 pa1 (.ref pa3)) (F2 : fd2 Z h0 pa1 (.int 2)) (F3 : fd4 Z h0 pa1 (.int 2)) (F4 : ex1 Z h0 pa2) (F5 : av2 Z h0 pa3 pk1 10 [.ref pa5, .ref pa6, .null, .null, .null, .null, .null, .null, .null, .null]) (F6 : ex3 Z h0 pa3) (F7 : Ovr Z pk1 "java/lang/Object") (ne : NE pa1 pa2 ∧ NE pa1 pa3 ∧ NE pa2 pa3 ∧ n0 ≤ pa1 ∧ n0 ≤ pa3) : M54 l Z 1 0 0 15 #[.ref pa1, .ref pa2] h0 n0 [pa1, pa3] [] (Q89 Z pa1 pa3 pk1 pa5 pa6 pa2 h0) := by
  refine mi B54 ef4 (hEW G) fun s X0 hsf0 n0le => ?_
  have := F0.l
  have := F4.l
  have := F5.l
  refine oA 1 X0 d54_0 rfl rfl <| oD 2 X0 d54_1 rfl rfl <| oF 5 X0 (w341 G) (Via.of (w272 G)) F2 d54_2 rfl ?_
  intro _ X2
  refine oc 6 (v := 1) X2 d54_5 rfl (by decide) <| o_iadd 7 (v := 3) X2 d54_6 rfl (by decide) <| oP 10 (v' := (.int 3)) X2 (w341 G) (Via.of (w272 G)) F2 F0 (Or.inl (w68 G)) (w49 G) fd_2 rfl rfl d54_7 rfl (by omega) (Or.inl (by simp)) (sx X2 F0 nc1) ?_
  intro _ _ X3 W3 _
  have := W3.size
  have f4 := F2.same W3
  refine oA 11 X3 d54_10 rfl rfl <| oA 12 X3 d54_11 rfl rfl <| oA 13 X3 d54_12 rfl rfl ?_
  have f5 := F1.other W3 (Or.inr (sn2 G))
  refine oF 16 X3 (w70 G) Via.refl f5 d54_13 rfl ?_
  intro _ X7
  refine oA 17 X7 d54_16 rfl rfl ?_
  have f8 := F3.other W3 (Or.inr (sn3 G))
  refine oF 20 X7 (w94 G) Via.refl f8 d54_17 rfl ?_
  intro _ X10
  have f11 := F0.wr W3
  have f12 := F4.wr W3
  have f13 := F5.oth W3 (by omega)
  have f14 := F6.wr W3
  refine mV 23 0 X10 f11 (rm_au168 G f11 f5 f4 f8 f12 f13 f14 F7 (by omega)) (u58 G) all0 d54_20 rfl rfl rfl lr (by decide) (aI (by omega) (by simp) (aI (by omega) (by simp) all0)) ?_
  rintro _ _ _ _ X15 ⟨rfl, q16, q17, q18, q19, q20, q21, q22⟩ _ _ _
  refine sk [] rfl <| oc 24 (v := 1) X15 d54_23 rfl (by decide) ?_
  exact o_nret (y := (1 : Int32)) (t := .boolean) X15 d54_24 rfl (by decide) (by simp) (by decide) (by decide) (fun _ CC => ⟨rfl, q16, q17, q18, q19, q20, q21, q22⟩)
def Q90 (Z : State) (b1 b2 b3 : Addr) (h0 : Heap) (v : Option Value) (h : Heap) (vm : Vm) : Prop := ∃ (xa1 : Addr) (xk1 : ClassId), v = some (.ref xa1) ∧ av2 Z h xa1 xk1 3 [.ref b1, .ref b2, .ref b3] ∧ ex3 Z h xa1 ∧ Ovr Z xk1 "java/lang/Object" ∧ h0.size ≤ xa1 ∧ h.size > xa1
theorem rm_au170 (G : GL l Z a0 zc dce kdce eed keed mroa mral mrul mrur) (F0 : av2 Z h0 pa1 pk1 10 [.ref pa2, .ref pa3, .ref pa4, .null, .null, .null, .null, .null, .null, .null]) (F1 : ex1 Z h0 pa2) (F2 : ex1 Z h0 pa3) (F3 : ex1 Z h0 pa4) : M18 l Z 1 1 3 40 #[.ref pa1, .int 3, .ref mroa] h0 n0 [] [] (Q90 Z pa2 pa3 pa4 h0) := by
  refine mi B18 ef12 (hEW G) fun s X0 hsf0 n0le => ?_
  have := F0.l
  have := F1.l
  have l3 := F2.l
  have := F3.l
  refine oA 1 X0 d18_0 rfl rfl <| o_ldcK 3 X0 (w109 G) (sg5 G) d18_1 rfl ?_
  intro _ X2
  refine o_acmp 6 (same := true) X2 d18_3 rfl rfl (decide_eq_true rfl) (by decide) (by decide) <| oI 7 X2 d18_6 rfl rfl <| o_newR 10 (cap := 3) X2 (w110 G) (w111 G) d18_7 rfl (by decide) (by decide) (by decide) (by decide) (by decide) (ad := "[Ljava/lang/Object;") (by decide +kernel) ?_
  intro _ h3 b3 k3 X3 _ l3 E3 V3 O3 A3 _ _
  have V4 : av2 Z h3 b3 k3 3 [.null, .null, .null] := V3.pad (pad_rep [] .null 3)
  refine og 24 X3 d18_10 (by decide) <| oV 25 (l' := #[rr pa1, ii 3, rr mroa, rr b3]) X3 d18_24 rfl rfl rfl <| oA 26 X3 d18_25 rfl rfl <| oc 27 (v := 0) X3 d18_26 rfl (by decide) <| oA 28 X3 d18_27 rfl rfl <| oc 29 (v := 0) X3 d18_28 rfl (by decide) <| oA 30 X3 d18_29 rfl rfl ?_
  have f5 := F0.ext E3
  refine oL 31 X3 f5 d18_30 rfl <| oI 32 X3 d18_31 rfl rfl <| mS 35 4 X3 (rm_au55 G (by decide)) (u13 G) all0 d18_32 rfl rfl rfl lr (by decide) all0 ?_
  rintro _ _ _ _ X6 rfl K6 _ _
  refine sk [.int 3, i0, .ref b3, i0, .ref pa1] rfl ?_
  have f7 := f5.k0 K6
  have f8 := V4.k0 K6
  have f9 := (F3.ext E3).keep K6
  have f10 := (F2.ext E3).keep K6
  have f11 := (F1.ext E3).keep K6
  have f12 := A3.keep K6
  refine o_cp 38 (us := [.ref pa2, .ref pa3, .ref pa4]) (vr := [.ref pa2, .ref pa3, .ref pa4]) (W := 0) X6 (w116 G) (w119 G) (w117 G) (w118 G) f7 f8 (Or.inr ⟨rfl, rfl, ⟨(own_sto f8 O3 f11 (w361 G)), ⟨(own_sto f8 O3 f10 (w361 G)), ⟨(own_sto f8 O3 f9 (w361 G)), trivial⟩⟩⟩⟩) (by decide) (by decide) (by decide) (by decide) (by decide) rfl (Nat.le_of_ble_eq_true rfl) rfl d18_35 rfl rfl (by decide) (Nat.le_of_eq rfl) (by decide) (by omega) (Or.inr (by omega)) (sx X6 f12 nc3) ?_
  intro _ _ X13 K13 _ V13
  have := K13.1
  refine oA 39 X13 d18_38 rfl rfl ?_
  have f14 := f12.keep K13
  exact oR X13 d18_39 rfl rfl rfl (by decide) (by decide) (fun _ CC => ⟨b3, k3, rfl, V13, f14, O3, by omega⟩)
theorem rm_au171 (G : GL l Z a0 zc dce kdce eed keed mroa mral mrul mrur) (F0 : av2 Z h0 pa1 pk1 10 [.ref pa2, .ref pa3, .ref pa4, .null, .null, .null, .null, .null, .null, .null]) (F1 : ex3 Z h0 pa1) (F2 : ex1 Z h0 pa2) (F3 : ex1 Z h0 pa3) (F4 : ex1 Z h0 pa4) : M17 l Z 2 1 3 55 #[.ref pa1, .int 3] h0 n0 [] [] (Q90 Z pa2 pa3 pa4 h0) := by
  refine mi B17 ef8 (hEW G) fun s X0 hsf0 n0le => ?_
  have := F0.l
  have := F2.l
  have := F3.l
  have := F4.l
  refine oA 1 X0 d17_0 rfl rfl <| oI 2 X0 d17_1 rfl rfl <| oA 3 X0 d17_2 rfl rfl <| o_gcV 6 (W := 2) X0 (w100 G) (w101 G) (nf_sel (w103 G)) (w103 G) (w102 G) (w104 G) F1 (sg5 G) rfl (by decide) (Nat.le_of_eq rfl) (by decide) d17_3 rfl ?_
  intro _ X2
  refine mS 9 0 X2 (rm_au170 G F0 F2 F3 F4) (u14 G) all0 d17_6 rfl rfl rfl lr (by decide) all0 ?_
  rintro _ _ _ _ X3 ⟨xa1_4, xk1_5, rfl, q6, q7, q8, _⟩ _ _ _
  refine sk [.ref xa1_4] rfl ?_
  exact oR X3 d17_9 rfl rfl rfl (by decide) (by decide) (fun _ CC => ⟨xa1_4, xk1_5, rfl, q6, q7, q8, by omega⟩)
theorem rm_au172 (G : GL l Z a0 zc dce kdce eed keed mroa mral mrul mrur) (F0 : fd3 Z h0 pa1 (.ref pa2)) (F1 : fd4 Z h0 pa1 (.int 3)) (F2 : av2 Z h0 pa2 pk1 10 [.ref pa3, .ref pa4, .ref pa5, .null, .null, .null, .null, .null, .null, .null]) (F3 : ex3 Z h0 pa2) (F4 : ex1 Z h0 pa3) (F5 : ex1 Z h0 pa4) (F6 : ex1 Z h0 pa5) : M16 l Z 3 1 3 68 #[.ref pa1] h0 n0 [] [] (Q90 Z pa3 pa4 pa5 h0) := by
  refine mi B16 ef9 (hEW G) fun s X0 hsf0 n0le => ?_
  have := F0.l
  have := F2.l
  have := F4.l
  have := F5.l
  have := F6.l
  refine oA 1 X0 d16_0 rfl rfl <| oF 4 X0 (w70 G) Via.refl F0 d16_1 rfl ?_
  intro _ X2
  refine oA 5 X2 d16_4 rfl rfl <| oF 8 X2 (w94 G) Via.refl F1 d16_5 rfl ?_
  intro _ X4
  refine mS 11 0 X4 (rm_au171 G F2 F3 F4 F5 F6) (u15 G) all0 d16_8 rfl rfl rfl lr (by decide) all0 ?_
  rintro _ _ _ _ X5 ⟨xa1_6, xk1_7, rfl, q8, q9, q10, _⟩ _ _ _
  refine sk [.ref xa1_6] rfl ?_
  exact oR X5 d16_11 rfl rfl rfl (by decide) (by decide) (fun _ CC => ⟨xa1_6, xk1_7, rfl, q8, q9, q10, by omega⟩)
def Q91 (Z : State) (b1 b2 b3 b4 : Addr) (h0 : Heap) (v : Option Value) (h : Heap) (vm : Vm) : Prop := ∃ (xa1 : Addr) (xk1 : ClassId), v = none ∧ ex2 Z h b1 ∧ fd3 Z h b1 (.ref xa1) ∧ fd2 Z h b1 (.int 0) ∧ fd4 Z h b1 (.int 3) ∧ av2 Z h xa1 xk1 3 [.ref b2, .ref b3, .ref b4] ∧ ex3 Z h xa1 ∧ Ovr Z xk1 "java/lang/Object" ∧ h0.size ≤ xa1 ∧ h.size > xa1
theorem rm_au173 (G : GL l Z a0 zc dce kdce eed keed mroa mral mrul mrur) (F0 : ex2 Z h0 pa1) (F1 : fd3 Z h0 pa1 .null) (F2 : fd2 Z h0 pa1 (.int 0)) (F3 : fd4 Z h0 pa1 (.int 0)) (F4 : ex2 Z h0 pa2) (F5 : fd3 Z h0 pa2 (.ref pa3)) (F6 : fd4 Z h0 pa2 (.int 3)) (F7 : av2 Z h0 pa3 pk1 10 [.ref pa4, .ref pa5, .ref pa6, .null, .null, .null, .null, .null, .null, .null]) (F8 : ex3 Z h0 pa3) (F9 : ex1 Z h0 pa4) (F10 : ex1 Z h0 pa5) (F11 : ex1 Z h0 pa6) (ne : NE pa1 pa2 ∧ NE pa1 pa3 ∧ NE pa1 pa4 ∧ NE pa1 pa5 ∧ NE pa1 pa6 ∧ n0 ≤ pa1) : M15 l Z 4 1 3 80 #[.ref pa1, .ref pa2] h0 n0 [pa1] [] (Q91 Z pa1 pa4 pa5 pa6 h0) := by
  refine mi B15 ef11 (hEW G) fun s X0 hsf0 n0le => ?_
  have := F0.l
  have := F4.l
  have := F7.l
  have := F9.l
  have := F10.l
  have := F11.l
  refine oA 1 X0 d15_0 rfl rfl <| mP 4 0 X0 (rm_au11 G F0 F1 F2 F3 (by omega)) (u11 G) all0 d15_1 rfl rfl rfl lr (by decide) (aI (by omega) (by simp) all0) ?_
  rintro _ _ _ _ X1 ⟨rfl, q2, q3, q4, q5⟩ K1 _ _
  refine sk [] rfl <| oA 5 X1 d15_4 rfl rfl ?_
  have f6 := F5.k1 K1 (by omega)
  have f7 := F6.k1 K1 (by omega)
  have f8 := F7.k1 K1 (by omega)
  have f9 := F8.keep K1
  have f10 := F9.keep K1
  have f11 := F10.keep K1
  have f12 := F11.keep K1
  have f13 := F4.keep K1
  refine mF 10 0 X1 f13 (rm_au172 G f6 f7 f8 f9 f10 f11 f12) (u16 G) all0 d15_5 rfl rfl rfl lr (by decide) all0 ?_
  rintro _ _ _ _ X14 ⟨xa1_15, xk1_16, rfl, q17, q18, q19, _⟩ K14 _ _
  refine sk [.ref xa1_15] rfl <| oV 11 (l' := #[rr pa1, rr pa2, rr xa1_15]) X14 d15_10 rfl rfl rfl <| oA 12 X14 d15_11 rfl rfl <| oA 13 X14 d15_12 rfl rfl <| oL 14 X14 q17 d15_13 rfl <| o_dupX1 15 X14 d15_14 rfl rfl rfl ?_
  have f21 := q5.k0 K14
  have f22 := q2.keep K14
  refine oP 18 (v' := (.int 3)) X14 (w94 G) Via.refl f21 f22 (Or.inl (w95 G)) (w49 G) fd_2 rfl rfl d15_15 rfl (by omega) (Or.inl (by simp)) (sx X14 f22 nc1) ?_
  intro _ _ X23 W23 _
  have := W23.size
  have f24 := f21.same W23
  refine on 21 X23 d15_18 rfl ((if0 _ _).trans (feq (by decide)).1) <| oA 22 X23 d15_21 rfl rfl ?_
  have f25 := (f13.keep K14).wr W23
  refine o_gcI 27 (W := 0) X23 (w362 G) (w101 G) (w363 G) (w364 G) (w102 G) (w128 G) (w129 G) (w92 G) (w104 G) (by decide) (by decide) rfl rfl f25 (sg4 G) rfl (by decide) (Nat.le_of_eq rfl) (by decide) d15_22 rfl ?_
  intro _ X27
  refine o_ldcK 29 X27 (w365 G) (sg4 G) d15_27 rfl ?_
  intro _ X29
  refine o_acmp 32 (same := true) X29 d15_29 rfl rfl (decide_eq_true rfl) (by decide) (by decide) <| oA 33 X29 d15_32 rfl rfl <| oA 34 X29 d15_33 rfl rfl ?_
  have f30 := (q3.k0 K14).other W23 (Or.inr (sn6 G))
  have f31 := f22.wr W23
  refine oP 37 (v' := (.ref xa1_15)) X29 (w70 G) Via.refl f30 f31 (Or.inl (w71 G)) (w49 G) fd_3 rfl rfl d15_34 rfl (by omega) (Or.inl (by simp)) (sx X29 f31 nc1) ?_
  intro _ _ X32 W32 _
  have := W32.size
  have f33 := f30.same W32
  refine og 64 X32 d15_37 (by decide) ?_
  have f34 := f31.wr W32
  have f35 := ((q4.k0 K14).other W23 (Or.inr (sn7 G))).other W32 (Or.inr (sn4 G))
  have f36 := f24.other W32 (Or.inr (sn5 G))
  have f37 := (q17.oth W23 (by omega)).oth W32 (by omega)
  have f38 := (q18.wr W23).wr W32
  exact oz X32 d15_64 rfl (by decide) (by decide) (fun _ CC => ⟨xa1_15, xk1_16, rfl, f34, f33, f35, f36, f37, f38, q19, by omega⟩)
def Q92 (Z : State) (b1 b2 b3 b4 b5 : Addr) (h0 : Heap) (v : Option Value) (h : Heap) (vm : Vm) : Prop := ∃ (xa1 : Addr) (xa2 : Addr) (xa3 : Addr) (xk1 : ClassId), v = none ∧ ex5 Z h b1 ∧ fd6 Z h b1 (.ref xa1) ∧ fd5 Z h b1 (.ref b2) ∧ ex4 Z h xa1 ∧ fd7 Z h xa1 (.ref xa2) ∧ fd8 Z h xa1 (.ref xa2) ∧ ex2 Z h xa2 ∧ fd3 Z h xa2 (.ref xa3) ∧ fd2 Z h xa2 (.int 0) ∧ fd4 Z h xa2 (.int 3) ∧ av2 Z h xa3 xk1 3 [.ref b3, .ref b4, .ref b5] ∧ ex3 Z h xa3 ∧ Ovr Z xk1 "java/lang/Object" ∧ h0.size ≤ xa1 ∧ h.size > xa1 ∧ h0.size ≤ xa2 ∧ h.size > xa2 ∧ NE xa1 xa2 ∧ h0.size ≤ xa3 ∧ h.size > xa3 ∧ NE xa1 xa3 ∧ NE xa2 xa3
theorem rm_au174 (G : GL l Z a0 zc dce kdce eed keed mroa mral mrul mrur) (F0 : ex5 Z h0 pa1) (F1 : fd6 Z h0 pa1 .null) (F2 : fd5 Z h0 pa1 .null) (F3 : ex2 Z h0 pa3) (F4 : fd3 Z h0 pa3 (.ref pa5)) (F5 : fd4 Z h0 pa3 (.int 3)) (F6 : av2 Z h0 pa5 pk2 10 [.ref pa6, .ref pa7, .ref pa8, .null, .null, .null, .null, .null, .null, .null]) (F7 : ex3 Z h0 pa5) (F8 : ex1 Z h0 pa6) (F9 : ex1 Z h0 pa7) (F10 : ex1 Z h0 pa8) (ne : NE pa1 pa3 ∧ NE pa1 pa5 ∧ NE pa1 pa6 ∧ NE pa1 pa7 ∧ NE pa1 pa8 ∧ n0 ≤ pa1) : M14 l Z 5 3 8 96 #[.ref pa1, .ref pa2, .ref pa3] h0 n0 [pa1] [] (Q92 Z pa1 pa2 pa6 pa7 pa8 h0) := by
  refine mi B14 ef10 (hEW G) fun s X0 hsf0 n0le => ?_
  have := F0.l
  have := F3.l
  have := F6.l
  have := F8.l
  have l5 := F9.l
  have := F10.l
  refine oA 1 X0 d14_0 rfl rfl <| o_initO 4 (W := 0) X0 (w78 G) (w20 G) (w21 G) rfl (by decide) (Nat.le_of_eq rfl) (by decide) d14_1 rfl ?_
  intro _ X2
  refine oA 5 X2 d14_4 rfl rfl <| oA 6 X2 d14_5 rfl rfl <| oP 9 (v' := (.ref pa2)) X2 (w79 G) Via.refl F2 F0 (Or.inr ⟨(w80 G), rfl, rfl⟩) (w73 G) fd_4 rfl rfl d14_6 rfl (by omega) (Or.inl (by simp)) (sx X2 F0 nc2) ?_
  intro _ _ X3 W3 _
  have := W3.size
  have f4 := F2.same W3
  refine oA 10 X3 d14_9 rfl rfl <| o_new 13 X3 (w81 G) (w49 G) (w50 G) d14_10 rfl (by decide) (by decide) ?_
  intro _ h5 b5 X5 _ l5 E5 A5 D5 _ _ _
  have f6 : fd2 Z h5 b5 (.int 0) := D5 (Or.inl (w68 G)) fd_2
  have f7 : fd3 Z h5 b5 .null := D5 (Or.inl (w71 G)) fd_3
  have f8 : fd4 Z h5 b5 (.int 0) := D5 (Or.inl (w95 G)) fd_2
  refine oD 14 X5 d14_13 rfl rfl <| oA 15 X5 d14_14 rfl rfl ?_
  have f9 := (F3.wr W3).ext E5
  have f10 := (F4.oth W3 (by omega)).ext E5
  have f11 := (F5.oth W3 (by omega)).ext E5
  have f12 := (F6.oth W3 (by omega)).ext E5
  have f13 := (F7.wr W3).ext E5
  have f14 := (F8.wr W3).ext E5
  have f15 := (F9.wr W3).ext E5
  have f16 := (F10.wr W3).ext E5
  refine mP 18 2 X5 (rm_au173 G A5 f7 f6 f8 f9 f10 f11 f12 f13 f14 f15 f16 (by omega)) (u17 G) all0 d14_15 rfl rfl rfl lr (by decide) (aR (by omega) all0) ?_
  rintro _ _ _ _ X17 ⟨xa1_18, xk1_19, rfl, q20, q21, q22, q23, q24, q25, q26, _⟩ K17 _ _
  refine sk [.ref b5, .ref pa1] rfl <| mS 21 1 X17 (rm_au21 G q20) (u21 G) all0 d14_18 rfl rfl rfl lr (by decide) all0 ?_
  rintro _ _ _ _ X28 ⟨xa1_29, rfl, q30, q31, q32, _⟩ K28 _ _
  refine sk [.ref xa1_29, .ref pa1] rfl ?_
  have f34 := (((F1.other W3 (Or.inr (sn10 G))).ext E5).k1 K17 (by omega)).k0 K28
  have f35 := (((F0.wr W3).ext E5).keep K17).keep K28
  refine oP 24 (v' := (.ref xa1_29)) X28 (w161 G) Via.refl f34 f35 (Or.inr ⟨(w162 G), rfl, rfl⟩) (w73 G) fd_5 rfl rfl d14_21 rfl (by omega) (Or.inl (by simp)) (sx X28 f35 nc2) ?_
  intro _ _ X36 W36 _
  have := W36.size
  have f37 := f34.same W36
  have f38 := f35.wr W36
  have f39 := (((f4.ext E5).k1 K17 (by omega)).k0 K28).other W36 (Or.inr (sn11 G))
  have f40 := q30.wr W36
  have f41 := q31.oth W36 (by omega)
  have f42 := q32.oth W36 (by omega)
  have f43 := (q20.keep K28).wr W36
  have f44 := (q21.k0 K28).oth W36 (by omega)
  have f45 := (q22.k0 K28).oth W36 (by omega)
  have f46 := (q23.k0 K28).oth W36 (by omega)
  have f47 := (q24.k0 K28).oth W36 (by omega)
  have f48 := (q25.keep K28).wr W36
  exact oz X36 d14_24 rfl (by decide) (by decide) (fun _ CC => ⟨xa1_29, b5, xa1_18, xk1_19, rfl, f38, f37, f39, f40, f41, f42, f43, f44, f45, f46, f47, f48, q26, by omega⟩)
theorem rm_au175 (G : GL l Z a0 zc dce kdce eed keed mroa mral mrul mrur) (F0 : ex7 Z h0 pa1) (F1 : fd15 Z h0 pa1 (.int 0)) (F2 : fd14 Z h0 pa1 (.int pi1)) (F3 : fd13 Z h0 pa1 (.int (-1))) (F4 : fd12 Z h0 pa1 (.ref pa2)) (F5 : fd3 Z h0 pa2 (.ref pa3)) (F6 : fd2 Z h0 pa2 (.int pi1)) (F7 : fd4 Z h0 pa2 (.int pi2)) (F8 : av2 Z h0 pa3 pk1 3 [.ref pa4, .ref pa5, .ref pa6]) (pc_0 : (0 : Int32) < pi2) (ne : NE pa1 pa2 ∧ NE pa1 pa3 ∧ n0 ≤ pa1) : M61 l Z 1 0 0 12 #[.ref pa1] h0 n0 [pa1] [] (Q46 Z pa4 pa1 pi1 pa2 h0) := by
  refine mi B61 ef23 (hEW G) fun s X0 hsf0 n0le => ?_
  have := F0.l
  have := F5.l
  have := F8.l
  refine oA 1 X0 d61_0 rfl rfl <| mV 4 0 X0 F0 (rm_au84 G F2 F4 F6) (u65 G) all0 d61_1 rfl rfl rfl lr (by decide) all0 ?_
  rintro _ _ _ _ X1 rfl K1 _ _
  refine sk [] rfl <| oA 5 X1 d61_4 rfl rfl ?_
  have f2 := F1.k0 K1
  refine oF 8 X1 (w284 G) Via.refl f2 d61_5 rfl ?_
  intro _ X4
  refine oT 9 (l' := #[rr pa1, ii 0, uu]) X4 d61_8 rfl rfl <| oI 10 X4 d61_9 rfl rfl <| oA 11 X4 d61_10 rfl rfl ?_
  have f5 := F4.k0 K1
  refine oF 14 X4 (w266 G) Via.refl f5 d61_11 rfl ?_
  intro _ X7
  have f8 := F7.k0 K1
  refine o_getFN 17 X7 (w286 G) Via.refl f8 d61_14 rfl ?_
  intro _ X10
  refine oY 28 X10 d61_17 (by decide) (tlt pc_0).1 <| oA 29 X10 d61_28 rfl rfl <| oF 32 X10 (w266 G) Via.refl f5 d61_29 rfl ?_
  intro _ X12
  have f13 := F5.k0 K1
  refine oF 35 X12 (w393 G) Via.refl f13 d61_32 rfl ?_
  intro _ X15
  refine oV 36 (l' := #[rr pa1, ii 0, rr pa3]) X15 d61_35 rfl rfl rfl <| oI 37 X15 d61_36 rfl rfl <| oA 38 X15 d61_37 rfl rfl ?_
  have f16 := F8.k0 K1
  refine oL 39 X15 f16 d61_38 rfl <| oY 50 X15 d61_39 (by decide) (tlt (by decide)).1 <| oA 51 X15 d61_50 rfl rfl <| oI 52 X15 d61_51 rfl rfl <| oc 53 (v := 1) X15 d61_52 rfl (by decide) <| o_iadd 54 (v := 1) X15 d61_53 rfl (by decide) ?_
  have f17 := F0.keep K1
  refine oP 57 (v' := (.int 1)) X15 (w284 G) Via.refl f2 f17 (Or.inl (w285 G)) (w260 G) fd_2 rfl rfl d61_54 rfl (by omega) (Or.inl (by simp)) (sx X15 f17 nc6) ?_
  intro _ _ X18 W18 _
  have := W18.size
  have f19 := f2.same W18
  refine oA 58 X18 d61_57 rfl rfl <| oA 59 X18 d61_58 rfl rfl <| oI 60 X18 d61_59 rfl rfl <| o_dupX1 61 X18 d61_60 rfl rfl rfl ?_
  have f20 := (F3.k0 K1).other W18 (Or.inr (sn27 G))
  have f21 := f17.wr W18
  refine oP 64 (v' := (.int 0)) X18 (w269 G) Via.refl f20 f21 (Or.inl (w270 G)) (w260 G) fd_2 rfl rfl d61_61 rfl (by omega) (Or.inl (by simp)) (sx X18 f21 nc6) ?_
  intro _ _ X22 W22 _
  have := W22.size
  have f23 := f20.same W22
  have f24 := (f16.oth W18 (by omega)).oth W22 (by omega)
  refine o_aaload 65 (v := (.ref pa4)) X22 f24 rfl ⟨by decide, by decide⟩ rfl d61_64 rfl ?_
  have f25 := f21.wr W22
  have f26 := f19.other W22 (Or.inr (sn23 G))
  have f27 := ((F2.k0 K1).other W18 (Or.inr (sn28 G))).other W22 (Or.inr (sn21 G))
  have f28 := (f5.other W18 (Or.inr (sn29 G))).other W22 (Or.inr (sn19 G))
  exact oR X22 d61_65 rfl rfl rfl (by decide) (by decide) (fun _ CC => ⟨rfl, f25, f26, f27, f23, f28⟩)
theorem rm_au176 (G : GL l Z a0 zc dce kdce eed keed mroa mral mrul mrur) (F0 : ex7 Z h0 pa1) (F1 : fd15 Z h0 pa1 (.int 1)) (F2 : fd14 Z h0 pa1 (.int 0)) (F3 : fd13 Z h0 pa1 (.int 0)) (F4 : fd12 Z h0 pa1 (.ref pa2)) (F5 : fd3 Z h0 pa2 (.ref pa3)) (F6 : fd2 Z h0 pa2 (.int 0)) (F7 : fd4 Z h0 pa2 (.int 3)) (F8 : av2 Z h0 pa3 pk1 3 [.ref pa4, .ref pa5, .ref pa6]) (ne : NE pa1 pa2 ∧ NE pa1 pa3 ∧ n0 ≤ pa1) : M61 l Z 1 0 0 12 #[.ref pa1] h0 n0 [pa1] [] (Q70 Z pa5 pa1 pa2 h0) := by
  refine mi B61 ef23 (hEW G) fun s X0 hsf0 n0le => ?_
  have := F0.l
  have := F5.l
  have := F8.l
  refine oA 1 X0 d61_0 rfl rfl <| mV 4 0 X0 F0 (rm_au84 G F2 F4 F6) (u65 G) all0 d61_1 rfl rfl rfl lr (by decide) all0 ?_
  rintro _ _ _ _ X1 rfl K1 _ _
  refine sk [] rfl <| oA 5 X1 d61_4 rfl rfl ?_
  have f2 := F1.k0 K1
  refine oF 8 X1 (w284 G) Via.refl f2 d61_5 rfl ?_
  intro _ X4
  refine oT 9 (l' := #[rr pa1, ii 1, uu]) X4 d61_8 rfl rfl <| oI 10 X4 d61_9 rfl rfl <| oA 11 X4 d61_10 rfl rfl ?_
  have f5 := F4.k0 K1
  refine oF 14 X4 (w266 G) Via.refl f5 d61_11 rfl ?_
  intro _ X7
  have f8 := F7.k0 K1
  refine o_getFN 17 X7 (w286 G) Via.refl f8 d61_14 rfl ?_
  intro _ X10
  refine oY 28 X10 d61_17 (by decide) (tlt (by decide)).1 <| oA 29 X10 d61_28 rfl rfl <| oF 32 X10 (w266 G) Via.refl f5 d61_29 rfl ?_
  intro _ X12
  have f13 := F5.k0 K1
  refine oF 35 X12 (w393 G) Via.refl f13 d61_32 rfl ?_
  intro _ X15
  refine oV 36 (l' := #[rr pa1, ii 1, rr pa3]) X15 d61_35 rfl rfl rfl <| oI 37 X15 d61_36 rfl rfl <| oA 38 X15 d61_37 rfl rfl ?_
  have f16 := F8.k0 K1
  refine oL 39 X15 f16 d61_38 rfl <| oY 50 X15 d61_39 (by decide) (tlt (by decide)).1 <| oA 51 X15 d61_50 rfl rfl <| oI 52 X15 d61_51 rfl rfl <| oc 53 (v := 1) X15 d61_52 rfl (by decide) <| o_iadd 54 (v := 2) X15 d61_53 rfl (by decide) ?_
  have f17 := F0.keep K1
  refine oP 57 (v' := (.int 2)) X15 (w284 G) Via.refl f2 f17 (Or.inl (w285 G)) (w260 G) fd_2 rfl rfl d61_54 rfl (by omega) (Or.inl (by simp)) (sx X15 f17 nc6) ?_
  intro _ _ X18 W18 _
  have := W18.size
  have f19 := f2.same W18
  refine oA 58 X18 d61_57 rfl rfl <| oA 59 X18 d61_58 rfl rfl <| oI 60 X18 d61_59 rfl rfl <| o_dupX1 61 X18 d61_60 rfl rfl rfl ?_
  have f20 := (F3.k0 K1).other W18 (Or.inr (sn27 G))
  have f21 := f17.wr W18
  refine oP 64 (v' := (.int 1)) X18 (w269 G) Via.refl f20 f21 (Or.inl (w270 G)) (w260 G) fd_2 rfl rfl d61_61 rfl (by omega) (Or.inl (by simp)) (sx X18 f21 nc6) ?_
  intro _ _ X22 W22 _
  have := W22.size
  have f23 := f20.same W22
  have f24 := (f16.oth W18 (by omega)).oth W22 (by omega)
  refine o_aaload 65 (v := (.ref pa5)) X22 f24 rfl ⟨by decide, by decide⟩ rfl d61_64 rfl ?_
  have f25 := f21.wr W22
  have f26 := f19.other W22 (Or.inr (sn23 G))
  have f27 := ((F2.k0 K1).other W18 (Or.inr (sn28 G))).other W22 (Or.inr (sn21 G))
  have f28 := (f5.other W18 (Or.inr (sn29 G))).other W22 (Or.inr (sn19 G))
  exact oR X22 d61_65 rfl rfl rfl (by decide) (by decide) (fun _ CC => ⟨rfl, f25, f26, f27, f23, f28⟩)
def Q93 (Z : State) (b1 b2 : Addr) (b3 : ClassId) (b4 b5 : Int32) (h0 : Heap) (v : Option Value) (h : Heap) (vm : Vm) : Prop := v = some (.ref b1) ∧ ex6 Z h b1 ∧ fd10 Z h b1 (.int 0) ∧ fd11 Z h b1 (.int 6) ∧ fd9 Z h b1 (.ref b2) ∧ av0 Z h b2 b3 16 [.int 91, .int b4, .int 44, .int 32, .int b5, .int 44, i0, i0, i0, i0, i0, i0, i0, i0, i0, i0] ∧ ex0 Z h b2
theorem rm_au177 (G : GL l Z a0 zc dce kdce eed keed mroa mral mrul mrur) (F0 : ex6 Z h0 pa1) (F1 : fd10 Z h0 pa1 (.int 0)) (F2 : fd11 Z h0 pa1 (.int 5)) (F3 : fd9 Z h0 pa1 (.ref pa2)) (F4 : av0 Z h0 pa2 pk1 16 [.int 91, .int pi1, .int 44, .int 32, .int pi2, i0, i0, i0, i0, i0, i0, i0, i0, i0, i0, i0]) (F5 : ex0 Z h0 pa2) (ne : NE pa1 pa2 ∧ n0 ≤ pa1 ∧ n0 ≤ pa2) : M60 l Z 1 0 0 14 #[.ref pa1, .int 44] h0 n0 [pa1, pa2] [pa2] (Q93 Z pa1 pa2 pk1 pi1 pi2 h0) := by
  refine mi B60 ef8 (hEW G) fun s X0 hsf0 n0le => ?_
  have := F0.l
  have := F4.l
  have sf_pa2 := hsf0 pa2 (by simp)
  refine oA 1 X0 d60_0 rfl rfl <| oA 2 X0 d60_1 rfl rfl <| oF 5 X0 (w206 G) Via.refl F2 d60_2 rfl ?_
  intro _ X2
  refine oc 6 (v := 1) X2 d60_5 rfl (by decide) <| o_iadd 7 (v := 6) X2 d60_6 rfl (by decide) <| mV 10 0 X2 F0 (rm_au27 G F1 F3 F4 (by decide)) (u27 G) all0 d60_7 rfl rfl rfl lr (by decide) all0 ?_
  rintro _ _ _ _ X3 rfl K3 _ C3
  refine sk [] rfl <| oA 11 X3 d60_10 rfl rfl ?_
  have f4 := F1.k0 K3
  have f5 := F0.keep K3
  refine mV 14 0 X3 f5 (rm_au53 G f4 (by decide)) (u61 G) all0 d60_11 rfl rfl rfl lr (by decide) all0 ?_
  rintro _ _ _ _ X6 rfl K6 _ C6
  refine sk [.int 1] rfl <| on 17 X6 d60_14 rfl ((if0 _ _).trans (feq (by decide)).1) <| oI 18 X6 d60_17 rfl rfl <| mS 21 0 X6 (rm_au0 G (by decide)) (u62 G) all0 d60_18 rfl rfl rfl lr (by decide) all0 ?_
  rintro _ _ _ _ X7 rfl K7 _ C7
  refine sk [.int 1] rfl <| on 24 X7 d60_21 rfl ((if0 _ _).trans (feq (by decide)).1) <| oA 25 X7 d60_24 rfl rfl ?_
  have f8 := ((F3.k0 K3).k0 K6).k0 K7
  refine oF 28 X7 (w182 G) Via.refl f8 d60_25 rfl ?_
  intro _ X10
  refine oA 29 X10 d60_28 rfl rfl <| oD 30 X10 d60_29 rfl rfl ?_
  have f11 := ((F2.k0 K3).k0 K6).k0 K7
  refine oF 33 X10 (w206 G) Via.refl f11 d60_30 rfl ?_
  intro _ X13
  refine o_dupX1 34 X13 d60_33 rfl rfl rfl <| oc 35 (v := 1) X13 d60_34 rfl (by decide) <| o_iadd 36 (v := 6) X13 d60_35 rfl (by decide) ?_
  have f14 := (f5.keep K6).keep K7
  refine oP 39 (v' := (.int 6)) X13 (w206 G) Via.refl f11 f14 (Or.inl (w207 G)) (w169 G) fd_2 rfl rfl d60_36 rfl (by omega) (Or.inl (by simp)) (sx X13 f14 nc5) ?_
  intro _ _ X15 W15 C15
  have := W15.size
  have f16 := f11.same W15
  refine oI 40 X15 d60_39 rfl rfl <| o_i2b 41 (v := 44) X15 d60_40 rfl (by decide) ?_
  have f17 := (((F4.k0 K3).k0 K6).k0 K7).oth W15 (by omega)
  have f19 := C15.safe (own_lt (by omega)) (C7.safe (own_lt (by omega)) (C6.safe (own_lt (by omega)) (C3.safe (own_lt (by omega)) sf_pa2)))
  refine sB 42 5 44 X15 f17 (by decide) (lb rfl) (by decide) d60_41 rfl (by omega) (Or.inl (by simp)) f19 ?_
  rintro _ _ X18 ⟨_, _, W18⟩ _ V18
  have := W18.size
  have V20 := V18.as [.int 91, .int pi1, .int 44, .int 32, .int pi2, .int 44, i0, i0, i0, i0, i0, i0, i0, i0, i0, i0] rfl
  refine og 75 X18 d60_42 (by decide) <| oA 76 X18 d60_75 rfl rfl ?_
  have f21 := (f14.wr W15).wr W18
  have f22 := (((f4.k0 K6).k0 K7).other W15 (Or.inr (sn16 G))).oth W18 (by omega)
  have f23 := f16.oth W18 (by omega)
  have f24 := (f8.other W15 (Or.inr (sn17 G))).oth W18 (by omega)
  have f25 := ((((F5.keep K3).keep K6).keep K7).wr W15).wr W18
  exact oR X18 d60_76 rfl rfl rfl (by decide) (by decide) (fun _ CC => ⟨rfl, f21, f22, f23, f24, V20, f25⟩)
theorem rm_au178 (G : GL l Z a0 zc dce kdce eed keed mroa mral mrul mrur) (F0 : ex6 Z h0 pa1) (F1 : fd10 Z h0 pa1 (.int 0)) (F2 : fd11 Z h0 pa1 (.int 5)) (F3 : fd9 Z h0 pa1 (.ref pa2)) (F4 : av0 Z h0 pa2 pk1 16 [.int 91, .int pi1, .int 44, .int 32, .int pi2, i0, i0, i0, i0, i0, i0, i0, i0, i0, i0, i0]) (F5 : ex0 Z h0 pa2) (ne : NE pa1 pa2 ∧ n0 ≤ pa1 ∧ n0 ≤ pa2) : M59 l Z 2 0 0 27 #[.ref pa1, .int 44] h0 n0 [pa1, pa2] [pa2] (Q93 Z pa1 pa2 pk1 pi1 pi2 h0) := by
  refine mi B59 ef8 (hEW G) fun s X0 hsf0 n0le => ?_
  have := F0.l
  have := F4.l
  have sf_pa2 := hsf0 pa2 (by simp)
  refine oA 1 X0 d59_0 rfl rfl <| oI 2 X0 d59_1 rfl rfl <| mU 5 0 X0 F0 (rm_au177 G F0 F1 F2 F3 F4 F5 (by omega)) (u63 G) (sS (by omega) sf_pa2 all0) d59_2 rfl rfl rfl lr (by decide) (aI (by omega) (by simp) (aI (by omega) (by simp) all0)) ?_
  rintro _ _ _ _ X1 ⟨rfl, q2, q3, q4, q5, q6, q7⟩ _ _ _
  refine sk [.ref pa1] rfl <| o_pop 6 X1 d59_5 rfl rfl <| oA 7 X1 d59_6 rfl rfl ?_
  exact oR X1 d59_7 rfl rfl rfl (by decide) (by decide) (fun _ CC => ⟨rfl, q2, q3, q4, q5, q6, q7⟩)
def Q94 (Z : State) (b1 b2 : Addr) (b3 : ClassId) (b4 b5 : Int32) (h0 : Heap) (v : Option Value) (h : Heap) (vm : Vm) : Prop := v = some (.ref b1) ∧ ex6 Z h b1 ∧ fd10 Z h b1 (.int 0) ∧ fd11 Z h b1 (.int 7) ∧ fd9 Z h b1 (.ref b2) ∧ av0 Z h b2 b3 16 [.int 91, .int b4, .int 44, .int 32, .int b5, .int 44, .int 32, i0, i0, i0, i0, i0, i0, i0, i0, i0] ∧ ex0 Z h b2
theorem rm_au179 (G : GL l Z a0 zc dce kdce eed keed mroa mral mrul mrur) (F0 : ex6 Z h0 pa1) (F1 : fd10 Z h0 pa1 (.int 0)) (F2 : fd11 Z h0 pa1 (.int 6)) (F3 : fd9 Z h0 pa1 (.ref pa2)) (F4 : av0 Z h0 pa2 pk1 16 [.int 91, .int pi1, .int 44, .int 32, .int pi2, .int 44, i0, i0, i0, i0, i0, i0, i0, i0, i0, i0]) (F5 : ex0 Z h0 pa2) (ne : NE pa1 pa2 ∧ n0 ≤ pa1 ∧ n0 ≤ pa2) : M60 l Z 1 0 0 14 #[.ref pa1, .int 32] h0 n0 [pa1, pa2] [pa2] (Q94 Z pa1 pa2 pk1 pi1 pi2 h0) := by
  refine mi B60 ef8 (hEW G) fun s X0 hsf0 n0le => ?_
  have := F0.l
  have := F4.l
  have sf_pa2 := hsf0 pa2 (by simp)
  refine oA 1 X0 d60_0 rfl rfl <| oA 2 X0 d60_1 rfl rfl <| oF 5 X0 (w206 G) Via.refl F2 d60_2 rfl ?_
  intro _ X2
  refine oc 6 (v := 1) X2 d60_5 rfl (by decide) <| o_iadd 7 (v := 7) X2 d60_6 rfl (by decide) <| mV 10 0 X2 F0 (rm_au27 G F1 F3 F4 (by decide)) (u27 G) all0 d60_7 rfl rfl rfl lr (by decide) all0 ?_
  rintro _ _ _ _ X3 rfl K3 _ C3
  refine sk [] rfl <| oA 11 X3 d60_10 rfl rfl ?_
  have f4 := F1.k0 K3
  have f5 := F0.keep K3
  refine mV 14 0 X3 f5 (rm_au53 G f4 (by decide)) (u61 G) all0 d60_11 rfl rfl rfl lr (by decide) all0 ?_
  rintro _ _ _ _ X6 rfl K6 _ C6
  refine sk [.int 1] rfl <| on 17 X6 d60_14 rfl ((if0 _ _).trans (feq (by decide)).1) <| oI 18 X6 d60_17 rfl rfl <| mS 21 0 X6 (rm_au0 G (by decide)) (u62 G) all0 d60_18 rfl rfl rfl lr (by decide) all0 ?_
  rintro _ _ _ _ X7 rfl K7 _ C7
  refine sk [.int 1] rfl <| on 24 X7 d60_21 rfl ((if0 _ _).trans (feq (by decide)).1) <| oA 25 X7 d60_24 rfl rfl ?_
  have f8 := ((F3.k0 K3).k0 K6).k0 K7
  refine oF 28 X7 (w182 G) Via.refl f8 d60_25 rfl ?_
  intro _ X10
  refine oA 29 X10 d60_28 rfl rfl <| oD 30 X10 d60_29 rfl rfl ?_
  have f11 := ((F2.k0 K3).k0 K6).k0 K7
  refine oF 33 X10 (w206 G) Via.refl f11 d60_30 rfl ?_
  intro _ X13
  refine o_dupX1 34 X13 d60_33 rfl rfl rfl <| oc 35 (v := 1) X13 d60_34 rfl (by decide) <| o_iadd 36 (v := 7) X13 d60_35 rfl (by decide) ?_
  have f14 := (f5.keep K6).keep K7
  refine oP 39 (v' := (.int 7)) X13 (w206 G) Via.refl f11 f14 (Or.inl (w207 G)) (w169 G) fd_2 rfl rfl d60_36 rfl (by omega) (Or.inl (by simp)) (sx X13 f14 nc5) ?_
  intro _ _ X15 W15 C15
  have := W15.size
  have f16 := f11.same W15
  refine oI 40 X15 d60_39 rfl rfl <| o_i2b 41 (v := 32) X15 d60_40 rfl (by decide) ?_
  have f17 := (((F4.k0 K3).k0 K6).k0 K7).oth W15 (by omega)
  have f19 := C15.safe (own_lt (by omega)) (C7.safe (own_lt (by omega)) (C6.safe (own_lt (by omega)) (C3.safe (own_lt (by omega)) sf_pa2)))
  refine sB 42 6 32 X15 f17 (by decide) (lb rfl) (by decide) d60_41 rfl (by omega) (Or.inl (by simp)) f19 ?_
  rintro _ _ X18 ⟨_, _, W18⟩ _ V18
  have := W18.size
  have V20 := V18.as [.int 91, .int pi1, .int 44, .int 32, .int pi2, .int 44, .int 32, i0, i0, i0, i0, i0, i0, i0, i0, i0] rfl
  refine og 75 X18 d60_42 (by decide) <| oA 76 X18 d60_75 rfl rfl ?_
  have f21 := (f14.wr W15).wr W18
  have f22 := (((f4.k0 K6).k0 K7).other W15 (Or.inr (sn16 G))).oth W18 (by omega)
  have f23 := f16.oth W18 (by omega)
  have f24 := (f8.other W15 (Or.inr (sn17 G))).oth W18 (by omega)
  have f25 := ((((F5.keep K3).keep K6).keep K7).wr W15).wr W18
  exact oR X18 d60_76 rfl rfl rfl (by decide) (by decide) (fun _ CC => ⟨rfl, f21, f22, f23, f24, V20, f25⟩)
theorem rm_au180 (G : GL l Z a0 zc dce kdce eed keed mroa mral mrul mrur) (F0 : ex6 Z h0 pa1) (F1 : fd10 Z h0 pa1 (.int 0)) (F2 : fd11 Z h0 pa1 (.int 6)) (F3 : fd9 Z h0 pa1 (.ref pa2)) (F4 : av0 Z h0 pa2 pk1 16 [.int 91, .int pi1, .int 44, .int 32, .int pi2, .int 44, i0, i0, i0, i0, i0, i0, i0, i0, i0, i0]) (F5 : ex0 Z h0 pa2) (ne : NE pa1 pa2 ∧ n0 ≤ pa1 ∧ n0 ≤ pa2) : M59 l Z 2 0 0 27 #[.ref pa1, .int 32] h0 n0 [pa1, pa2] [pa2] (Q94 Z pa1 pa2 pk1 pi1 pi2 h0) := by
  refine mi B59 ef8 (hEW G) fun s X0 hsf0 n0le => ?_
  have := F0.l
  have := F4.l
  have sf_pa2 := hsf0 pa2 (by simp)
  refine oA 1 X0 d59_0 rfl rfl <| oI 2 X0 d59_1 rfl rfl <| mU 5 0 X0 F0 (rm_au179 G F0 F1 F2 F3 F4 F5 (by omega)) (u63 G) (sS (by omega) sf_pa2 all0) d59_2 rfl rfl rfl lr (by decide) (aI (by omega) (by simp) (aI (by omega) (by simp) all0)) ?_
  rintro _ _ _ _ X1 ⟨rfl, q2, q3, q4, q5, q6, q7⟩ _ _ _
  refine sk [.ref pa1] rfl <| o_pop 6 X1 d59_5 rfl rfl <| oA 7 X1 d59_6 rfl rfl ?_
  exact oR X1 d59_7 rfl rfl rfl (by decide) (by decide) (fun _ CC => ⟨rfl, q2, q3, q4, q5, q6, q7⟩)
def Q95 (Z : State) (b1 b2 b3 : Addr) (h0 : Heap) (v : Option Value) (h : Heap) (vm : Vm) : Prop := v = some (.ref b1) ∧ ex7 Z h b2 ∧ fd15 Z h b2 (.int 3) ∧ fd14 Z h b2 (.int 0) ∧ fd13 Z h b2 (.int 2) ∧ fd12 Z h b2 (.ref b3)
theorem rm_au181 (G : GL l Z a0 zc dce kdce eed keed mroa mral mrul mrur) (F0 : ex7 Z h0 pa1) (F1 : fd15 Z h0 pa1 (.int 2)) (F2 : fd14 Z h0 pa1 (.int 0)) (F3 : fd13 Z h0 pa1 (.int 1)) (F4 : fd12 Z h0 pa1 (.ref pa2)) (F5 : fd3 Z h0 pa2 (.ref pa3)) (F6 : fd2 Z h0 pa2 (.int 0)) (F7 : fd4 Z h0 pa2 (.int 3)) (F8 : av2 Z h0 pa3 pk1 3 [.ref pa4, .ref pa5, .ref pa6]) (ne : NE pa1 pa2 ∧ NE pa1 pa3 ∧ n0 ≤ pa1) : M61 l Z 1 0 0 12 #[.ref pa1] h0 n0 [pa1] [] (Q95 Z pa6 pa1 pa2 h0) := by
  refine mi B61 ef23 (hEW G) fun s X0 hsf0 n0le => ?_
  have := F0.l
  have := F5.l
  have := F8.l
  refine oA 1 X0 d61_0 rfl rfl <| mV 4 0 X0 F0 (rm_au84 G F2 F4 F6) (u65 G) all0 d61_1 rfl rfl rfl lr (by decide) all0 ?_
  rintro _ _ _ _ X1 rfl K1 _ _
  refine sk [] rfl <| oA 5 X1 d61_4 rfl rfl ?_
  have f2 := F1.k0 K1
  refine oF 8 X1 (w284 G) Via.refl f2 d61_5 rfl ?_
  intro _ X4
  refine oT 9 (l' := #[rr pa1, ii 2, uu]) X4 d61_8 rfl rfl <| oI 10 X4 d61_9 rfl rfl <| oA 11 X4 d61_10 rfl rfl ?_
  have f5 := F4.k0 K1
  refine oF 14 X4 (w266 G) Via.refl f5 d61_11 rfl ?_
  intro _ X7
  have f8 := F7.k0 K1
  refine o_getFN 17 X7 (w286 G) Via.refl f8 d61_14 rfl ?_
  intro _ X10
  refine oY 28 X10 d61_17 (by decide) (tlt (by decide)).1 <| oA 29 X10 d61_28 rfl rfl <| oF 32 X10 (w266 G) Via.refl f5 d61_29 rfl ?_
  intro _ X12
  have f13 := F5.k0 K1
  refine oF 35 X12 (w393 G) Via.refl f13 d61_32 rfl ?_
  intro _ X15
  refine oV 36 (l' := #[rr pa1, ii 2, rr pa3]) X15 d61_35 rfl rfl rfl <| oI 37 X15 d61_36 rfl rfl <| oA 38 X15 d61_37 rfl rfl ?_
  have f16 := F8.k0 K1
  refine oL 39 X15 f16 d61_38 rfl <| oY 50 X15 d61_39 (by decide) (tlt (by decide)).1 <| oA 51 X15 d61_50 rfl rfl <| oI 52 X15 d61_51 rfl rfl <| oc 53 (v := 1) X15 d61_52 rfl (by decide) <| o_iadd 54 (v := 3) X15 d61_53 rfl (by decide) ?_
  have f17 := F0.keep K1
  refine oP 57 (v' := (.int 3)) X15 (w284 G) Via.refl f2 f17 (Or.inl (w285 G)) (w260 G) fd_2 rfl rfl d61_54 rfl (by omega) (Or.inl (by simp)) (sx X15 f17 nc6) ?_
  intro _ _ X18 W18 _
  have := W18.size
  have f19 := f2.same W18
  refine oA 58 X18 d61_57 rfl rfl <| oA 59 X18 d61_58 rfl rfl <| oI 60 X18 d61_59 rfl rfl <| o_dupX1 61 X18 d61_60 rfl rfl rfl ?_
  have f20 := (F3.k0 K1).other W18 (Or.inr (sn27 G))
  have f21 := f17.wr W18
  refine oP 64 (v' := (.int 2)) X18 (w269 G) Via.refl f20 f21 (Or.inl (w270 G)) (w260 G) fd_2 rfl rfl d61_61 rfl (by omega) (Or.inl (by simp)) (sx X18 f21 nc6) ?_
  intro _ _ X22 W22 _
  have := W22.size
  have f23 := f20.same W22
  have f24 := (f16.oth W18 (by omega)).oth W22 (by omega)
  refine o_aaload 65 (v := (.ref pa6)) X22 f24 rfl ⟨by decide, by decide⟩ rfl d61_64 rfl ?_
  have f25 := f21.wr W22
  have f26 := f19.other W22 (Or.inr (sn23 G))
  have f27 := ((F2.k0 K1).other W18 (Or.inr (sn28 G))).other W22 (Or.inr (sn21 G))
  have f28 := (f5.other W18 (Or.inr (sn29 G))).other W22 (Or.inr (sn19 G))
  exact oR X22 d61_65 rfl rfl rfl (by decide) (by decide) (fun _ CC => ⟨rfl, f25, f26, f27, f23, f28⟩)
def Q96 (Z : State) (b1 : Addr) (b2 : ClassId) (b3 b4 b5 : Int32) (h0 : Heap) (v : Option Value) (h : Heap) (vm : Vm) : Prop := v = none ∧ av0 Z h b1 b2 16 [.int 91, .int b3, .int 44, .int 32, .int b4, .int 44, .int 32, .int b5, i0, i0, i0, i0, i0, i0, i0, i0] ∧ ex0 Z h b1
theorem rm_au182 (G : GL l Z a0 zc dce kdce eed keed mroa mral mrul mrur) (F0 : ex1 Z h0 pa1) (F1 : fd1 Z h0 pa1 (.int 0)) (F2 : fd0 Z h0 pa1 (.ref pa3)) (F3 : av0 Z h0 pa2 pk1 16 [.int 91, .int pi1, .int 44, .int 32, .int pi2, .int 44, .int 32, i0, i0, i0, i0, i0, i0, i0, i0, i0]) (F4 : ex0 Z h0 pa2) (F5 : av0 Z h0 pa3 pk2 1 [.int pi3]) (ne : NE pa1 pa2 ∧ NE pa2 pa3 ∧ n0 ≤ pa2) : M34 l Z 1 0 0 40 #[.ref pa1, .ref pa2, .int 7, i0] h0 n0 [pa2] [pa2] (Q96 Z pa2 pk1 pi1 pi2 pi3 h0) := by
  refine mi B34 ef16 (hEW G) fun s X0 hsf0 n0le => ?_
  have := F0.l
  have := F3.l
  have := F5.l
  have sf_pa2 := hsf0 pa2 (by simp)
  refine oA 1 X0 d34_0 rfl rfl <| mV 4 0 X0 F0 (rm_au25 G F1) (u25 G) all0 d34_1 rfl rfl rfl lr (by decide) all0 ?_
  rintro _ _ _ _ X1 rfl K1 _ C1
  refine sk [i0] rfl <| oI 5 X1 d34_4 rfl rfl <| oN 8 X1 d34_5 rfl (teq (by decide)).2 <| oA 9 X1 d34_8 rfl rfl ?_
  have f2 := F2.k0 K1
  refine oF 12 X1 (w22 G) Via.refl f2 d34_9 rfl ?_
  intro _ X4
  refine oc 13 (v := 0) X4 d34_12 rfl (by decide) <| oA 14 X4 d34_13 rfl rfl <| oI 15 X4 d34_14 rfl rfl <| oI 16 X4 d34_15 rfl rfl <| o_ishl 17 (v := 7) X4 d34_16 rfl (by decide) <| oA 18 X4 d34_17 rfl rfl <| oF 21 X4 (w22 G) Via.refl f2 d34_18 rfl ?_
  intro _ X6
  have f7 := F5.k0 K1
  refine oL 22 X6 f7 d34_21 rfl ?_
  have f8 := F3.k0 K1
  have f9 := C1.safe (own_lt (by omega)) sf_pa2
  refine o_cp 25 (us := [.int pi3]) (vr := [.int 91, .int pi1, .int 44, .int 32, .int pi2, .int 44, .int 32, .int pi3, i0, i0, i0, i0, i0, i0, i0, i0]) (W := 0) X6 (w229 G) (w119 G) (w117 G) (w118 G) f7 f8 (Or.inl ⟨rfl, rfl⟩) (by decide) (by decide) (by decide) (by decide) (by decide) rfl (Nat.le_of_ble_eq_true rfl) rfl d34_22 rfl rfl (by decide) (Nat.le_of_eq rfl) (by decide) (by omega) (Or.inl (by simp)) f9 ?_
  intro _ _ X10 K10 _ V10
  have := K10.1
  refine og 43 X10 d34_25 (by decide) ?_
  have f11 := (F4.keep K1).keep K10
  exact oz X10 d34_43 rfl (by decide) (by decide) (fun _ CC => ⟨rfl, V10, f11⟩)
theorem rm_au183 (G : GL l Z a0 zc dce kdce eed keed mroa mral mrul mrur) (F0 : ex6 Z h0 pa1) (F1 : fd10 Z h0 pa1 (.int 0)) (F2 : fd9 Z h0 pa1 (.ref pa3)) (F3 : ex1 Z h0 pa2) (F4 : fd1 Z h0 pa2 (.int 0)) (F5 : fd0 Z h0 pa2 (.ref pa4)) (F6 : av0 Z h0 pa3 pk1 16 [.int 91, .int pi1, .int 44, .int 32, .int pi2, .int 44, .int 32, i0, i0, i0, i0, i0, i0, i0, i0, i0]) (F7 : ex0 Z h0 pa3) (F8 : av0 Z h0 pa4 pk2 1 [.int pi3]) (ne : NE pa1 pa3 ∧ NE pa2 pa3 ∧ NE pa3 pa4 ∧ n0 ≤ pa3) : M32 l Z 2 0 0 55 #[.ref pa1, .int 7, .ref pa2] h0 n0 [pa3] [pa3] (Q96 Z pa3 pk1 pi1 pi2 pi3 h0) := by
  refine mi B32 ef15 (hEW G) fun s X0 hsf0 n0le => ?_
  have := F0.l
  have := F3.l
  have := F6.l
  have := F8.l
  have sf_pa3 := hsf0 pa3 (by simp)
  refine oA 1 X0 d32_0 rfl rfl <| oA 2 X0 d32_1 rfl rfl <| mV 5 0 X0 F0 (rm_au28 G F1 F3 F4) (u29 G) all0 d32_2 rfl rfl rfl lr (by decide) all0 ?_
  rintro _ _ _ _ X1 rfl K1 _ C1
  refine sk [] rfl <| oA 6 X1 d32_5 rfl rfl <| oA 7 X1 d32_6 rfl rfl ?_
  have f2 := F2.k0 K1
  refine oF 10 X1 (w182 G) Via.refl f2 d32_7 rfl ?_
  intro _ X4
  refine oI 11 X4 d32_10 rfl rfl <| oA 12 X4 d32_11 rfl rfl ?_
  have f5 := F1.k0 K1
  refine oF 15 X4 (w184 G) Via.refl f5 d32_12 rfl ?_
  intro _ X7
  have f8 := F3.keep K1
  have f9 := F4.k0 K1
  have f10 := F5.k0 K1
  have f11 := F6.k0 K1
  have f12 := F7.keep K1
  have f13 := F8.k0 K1
  have f14 := C1.safe (own_lt (by omega)) sf_pa3
  refine mV 18 0 X7 f8 (rm_au182 G f8 f9 f10 f11 f12 f13 (by omega)) (u30 G) (sS (by omega) f14 all0) d32_15 rfl rfl rfl lr (by decide) (aI (by omega) (by simp) all0) ?_
  rintro _ _ _ _ X15 ⟨rfl, q16, q17⟩ _ _ _
  refine sk [] rfl ?_
  exact oz X15 d32_18 rfl (by decide) (by decide) (fun _ CC => ⟨rfl, q16, q17⟩)
def Q97 (Z : State) (b1 b2 : Addr) (b3 : ClassId) (b4 b5 b6 : Int32) (h0 : Heap) (v : Option Value) (h : Heap) (vm : Vm) : Prop := v = some (.ref b1) ∧ ex6 Z h b1 ∧ fd10 Z h b1 (.int 0) ∧ fd11 Z h b1 (.int 8) ∧ fd9 Z h b1 (.ref b2) ∧ av0 Z h b2 b3 16 [.int 91, .int b4, .int 44, .int 32, .int b5, .int 44, .int 32, .int b6, i0, i0, i0, i0, i0, i0, i0, i0] ∧ ex0 Z h b2
theorem rm_au184 (G : GL l Z a0 zc dce kdce eed keed mroa mral mrul mrur) (F0 : ex6 Z h0 pa1) (F1 : fd10 Z h0 pa1 (.int 0)) (F2 : fd11 Z h0 pa1 (.int 7)) (F3 : fd9 Z h0 pa1 (.ref pa3)) (F4 : ex1 Z h0 pa2) (F5 : fd1 Z h0 pa2 (.int 0)) (F6 : fd0 Z h0 pa2 (.ref pa4)) (F7 : av0 Z h0 pa3 pk1 16 [.int 91, .int pi1, .int 44, .int 32, .int pi2, .int 44, .int 32, i0, i0, i0, i0, i0, i0, i0, i0, i0]) (F8 : ex0 Z h0 pa3) (F9 : av0 Z h0 pa4 pk2 1 [.int pi3]) (ne : NE pa1 pa2 ∧ NE pa1 pa3 ∧ NE pa1 pa4 ∧ NE pa2 pa3 ∧ NE pa3 pa4 ∧ n0 ≤ pa1 ∧ n0 ≤ pa3) : M28 l Z 3 0 0 69 #[.ref pa1, .ref pa2] h0 n0 [pa1, pa3] [pa3] (Q97 Z pa1 pa3 pk1 pi1 pi2 pi3 h0) := by
  refine mi B28 ef11 (hEW G) fun s X0 hsf0 n0le => ?_
  have := F0.l
  have := F4.l
  have := F7.l
  have := F9.l
  have sf_pa3 := hsf0 pa3 (by simp)
  refine oA 1 X0 d28_0 rfl rfl <| ifnonnullYesJ 9 X0 d28_1 (by decide) <| oA 10 X0 d28_9 rfl rfl <| mV 13 0 X0 F4 (rm_au26 G F4 F5 F6 F9) (u26 G) all0 d28_10 rfl rfl rfl lr (by decide) all0 ?_
  rintro _ _ _ _ X1 rfl K1 _ C1
  refine sk [.int 1] rfl <| oT 14 (l' := #[rr pa1, rr pa2, ii 1]) X1 d28_13 rfl rfl <| oA 15 X1 d28_14 rfl rfl <| oA 16 X1 d28_15 rfl rfl ?_
  have f2 := F2.k0 K1
  refine oF 19 X1 (w206 G) Via.refl f2 d28_16 rfl ?_
  intro _ X4
  refine oI 20 X4 d28_19 rfl rfl <| o_iadd 21 (v := 8) X4 d28_20 rfl (by decide) ?_
  have f5 := F1.k0 K1
  have f6 := F3.k0 K1
  have f7 := F7.k0 K1
  have f8 := F0.keep K1
  refine mV 24 0 X4 f8 (rm_au27 G f5 f6 f7 (by decide)) (u27 G) all0 d28_21 rfl rfl rfl lr (by decide) all0 ?_
  rintro _ _ _ _ X9 rfl K9 _ C9
  refine sk [] rfl <| oA 25 X9 d28_24 rfl rfl <| oA 26 X9 d28_25 rfl rfl ?_
  have f10 := f2.k0 K9
  refine oF 29 X9 (w206 G) Via.refl f10 d28_26 rfl ?_
  intro _ X12
  refine oA 30 X12 d28_29 rfl rfl ?_
  have f13 := f8.keep K9
  have f14 := f5.k0 K9
  have f15 := f6.k0 K9
  have f16 := (F4.keep K1).keep K9
  have f17 := (F5.k0 K1).k0 K9
  have f18 := (F6.k0 K1).k0 K9
  have f19 := f7.k0 K9
  have f20 := (F8.keep K1).keep K9
  have f21 := (F9.k0 K1).k0 K9
  have f22 := C9.safe (own_lt (by omega)) (C1.safe (own_lt (by omega)) sf_pa3)
  refine mV 33 0 X12 f13 (rm_au183 G f13 f14 f15 f16 f17 f18 f19 f20 f21 (by omega)) (u31 G) (sS (by omega) f22 all0) d28_30 rfl rfl rfl lr (by decide) (aI (by omega) (by simp) all0) ?_
  rintro _ _ _ _ X23 ⟨rfl, q24, q25⟩ K23 _ _
  refine sk [] rfl <| oA 34 X23 d28_33 rfl rfl <| oD 35 X23 d28_34 rfl rfl ?_
  have f26 := f10.k1 K23 (by omega)
  refine oF 38 X23 (w206 G) Via.refl f26 d28_35 rfl ?_
  intro _ X28
  refine oI 39 X28 d28_38 rfl rfl <| o_iadd 40 (v := 8) X28 d28_39 rfl (by decide) ?_
  have f29 := f13.keep K23
  refine oP 43 (v' := (.int 8)) X28 (w206 G) Via.refl f26 f29 (Or.inl (w207 G)) (w169 G) fd_2 rfl rfl d28_40 rfl (by omega) (Or.inl (by simp)) (sx X28 f29 nc5) ?_
  intro _ _ X30 W30 _
  have := W30.size
  have f31 := f26.same W30
  refine oA 44 X30 d28_43 rfl rfl ?_
  have f32 := f29.wr W30
  have f33 := (f14.k1 K23 (by omega)).other W30 (Or.inr (sn16 G))
  have f34 := (f15.k1 K23 (by omega)).other W30 (Or.inr (sn17 G))
  have f35 := q24.oth W30 (by omega)
  have f36 := q25.wr W30
  exact oR X30 d28_44 rfl rfl rfl (by decide) (by decide) (fun _ CC => ⟨rfl, f32, f33, f31, f34, f35, f36⟩)
theorem rm_au185 (G : GL l Z a0 zc dce kdce eed keed mroa mral mrul mrur) (F0 : ex6 Z h0 pa1) (F1 : fd10 Z h0 pa1 (.int 0)) (F2 : fd11 Z h0 pa1 (.int 7)) (F3 : fd9 Z h0 pa1 (.ref pa3)) (F4 : ex1 Z h0 pa2) (F5 : fd1 Z h0 pa2 (.int 0)) (F6 : fd0 Z h0 pa2 (.ref pa4)) (F7 : av0 Z h0 pa3 pk1 16 [.int 91, .int pi1, .int 44, .int 32, .int pi2, .int 44, .int 32, i0, i0, i0, i0, i0, i0, i0, i0, i0]) (F8 : ex0 Z h0 pa3) (F9 : av0 Z h0 pa4 pk2 1 [.int pi3]) (ne : NE pa1 pa2 ∧ NE pa1 pa3 ∧ NE pa1 pa4 ∧ NE pa2 pa3 ∧ NE pa3 pa4 ∧ n0 ≤ pa1 ∧ n0 ≤ pa3) : M27 l Z 4 0 0 83 #[.ref pa1, .ref pa2] h0 n0 [pa1, pa3] [pa3] (Q97 Z pa1 pa3 pk1 pi1 pi2 pi3 h0) := by
  refine mi B27 ef4 (hEW G) fun s X0 hsf0 n0le => ?_
  have := F0.l
  have := F4.l
  have := F7.l
  have := F9.l
  have sf_pa3 := hsf0 pa3 (by simp)
  refine oA 1 X0 d27_0 rfl rfl <| oA 2 X0 d27_1 rfl rfl <| mU 5 0 X0 F0 (rm_au184 G F0 F1 F2 F3 F4 F5 F6 F7 F8 F9 (by omega)) (u32 G) (sS (by omega) sf_pa3 all0) d27_2 rfl rfl rfl lr (by decide) (aI (by omega) (by simp) (aI (by omega) (by simp) all0)) ?_
  rintro _ _ _ _ X1 ⟨rfl, q2, q3, q4, q5, q6, q7⟩ _ _ _
  refine sk [.ref pa1] rfl <| o_pop 6 X1 d27_5 rfl rfl <| oA 7 X1 d27_6 rfl rfl ?_
  exact oR X1 d27_7 rfl rfl rfl (by decide) (by decide) (fun _ CC => ⟨rfl, q2, q3, q4, q5, q6, q7⟩)
theorem rm_au186 (G : GL l Z a0 zc dce kdce eed keed mroa mral mrul mrur) (F0 : ex6 Z h0 pa1) (F1 : fd10 Z h0 pa1 (.int 0)) (F2 : fd11 Z h0 pa1 (.int 7)) (F3 : fd9 Z h0 pa1 (.ref pa3)) (F4 : ex1 Z h0 pa2) (F5 : fd1 Z h0 pa2 (.int 0)) (F6 : fd0 Z h0 pa2 (.ref pa4)) (F7 : av0 Z h0 pa3 pk1 16 [.int 91, .int pi1, .int 44, .int 32, .int pi2, .int 44, .int 32, i0, i0, i0, i0, i0, i0, i0, i0, i0]) (F8 : ex0 Z h0 pa3) (F9 : av0 Z h0 pa4 pk2 1 [.int pi3]) (ne : NE pa1 pa2 ∧ NE pa1 pa3 ∧ NE pa1 pa4 ∧ NE pa2 pa3 ∧ NE pa3 pa4 ∧ n0 ≤ pa1 ∧ n0 ≤ pa3) : M35 l Z 5 0 0 96 #[.ref pa1, .ref pa2] h0 n0 [pa1, pa3] [pa3] (Q97 Z pa1 pa3 pk1 pi1 pi2 pi3 h0) := by
  refine mi B35 ef4 (hEW G) fun s X0 hsf0 n0le => ?_
  have := F0.l
  have := F4.l
  have := F7.l
  have := F9.l
  have sf_pa3 := hsf0 pa3 (by simp)
  refine oA 1 X0 d35_0 rfl rfl <| oA 2 X0 d35_1 rfl rfl <| mS 5 1 X0 (rm_au87 G F4) (u39 G) all0 d35_2 rfl rfl rfl lr (by decide) all0 ?_
  rintro _ _ _ _ X1 rfl K1 _ C1
  refine sk [.ref pa2, .ref pa1] rfl ?_
  have f2 := F0.keep K1
  have f3 := F1.k0 K1
  have f4 := F2.k0 K1
  have f5 := F3.k0 K1
  have f6 := F4.keep K1
  have f7 := F5.k0 K1
  have f8 := F6.k0 K1
  have f9 := F7.k0 K1
  have f10 := F8.keep K1
  have f11 := F9.k0 K1
  have f12 := C1.safe (own_lt (by omega)) sf_pa3
  refine mV 8 0 X1 f2 (rm_au185 G f2 f3 f4 f5 f6 f7 f8 f9 f10 f11 (by omega)) (u40 G) (sS (by omega) f12 all0) d35_5 rfl rfl rfl lr (by decide) (aI (by omega) (by simp) (aI (by omega) (by simp) all0)) ?_
  rintro _ _ _ _ X13 ⟨rfl, q14, q15, q16, q17, q18, q19⟩ _ _ _
  refine sk [.ref pa1] rfl ?_
  exact oR X13 d35_8 rfl rfl rfl (by decide) (by decide) (fun _ CC => ⟨rfl, q14, q15, q16, q17, q18, q19⟩)
def Q98 (Z : State) (b1 b2 : Addr) (b3 : ClassId) (b4 b5 b6 : Int32) (h0 : Heap) (v : Option Value) (h : Heap) (vm : Vm) : Prop := v = some (.ref b1) ∧ ex6 Z h b1 ∧ fd10 Z h b1 (.int 0) ∧ fd11 Z h b1 (.int 9) ∧ fd9 Z h b1 (.ref b2) ∧ av0 Z h b2 b3 16 [.int 91, .int b4, .int 44, .int 32, .int b5, .int 44, .int 32, .int b6, .int 93, i0, i0, i0, i0, i0, i0, i0] ∧ ex0 Z h b2
theorem rm_au187 (G : GL l Z a0 zc dce kdce eed keed mroa mral mrul mrur) (F0 : ex6 Z h0 pa1) (F1 : fd10 Z h0 pa1 (.int 0)) (F2 : fd11 Z h0 pa1 (.int 8)) (F3 : fd9 Z h0 pa1 (.ref pa2)) (F4 : av0 Z h0 pa2 pk1 16 [.int 91, .int pi1, .int 44, .int 32, .int pi2, .int 44, .int 32, .int pi3, i0, i0, i0, i0, i0, i0, i0, i0]) (F5 : ex0 Z h0 pa2) (ne : NE pa1 pa2 ∧ n0 ≤ pa1 ∧ n0 ≤ pa2) : M60 l Z 1 0 0 14 #[.ref pa1, .int 93] h0 n0 [pa1, pa2] [pa2] (Q98 Z pa1 pa2 pk1 pi1 pi2 pi3 h0) := by
  refine mi B60 ef8 (hEW G) fun s X0 hsf0 n0le => ?_
  have := F0.l
  have := F4.l
  have sf_pa2 := hsf0 pa2 (by simp)
  refine oA 1 X0 d60_0 rfl rfl <| oA 2 X0 d60_1 rfl rfl <| oF 5 X0 (w206 G) Via.refl F2 d60_2 rfl ?_
  intro _ X2
  refine oc 6 (v := 1) X2 d60_5 rfl (by decide) <| o_iadd 7 (v := 9) X2 d60_6 rfl (by decide) <| mV 10 0 X2 F0 (rm_au27 G F1 F3 F4 (by decide)) (u27 G) all0 d60_7 rfl rfl rfl lr (by decide) all0 ?_
  rintro _ _ _ _ X3 rfl K3 _ C3
  refine sk [] rfl <| oA 11 X3 d60_10 rfl rfl ?_
  have f4 := F1.k0 K3
  have f5 := F0.keep K3
  refine mV 14 0 X3 f5 (rm_au53 G f4 (by decide)) (u61 G) all0 d60_11 rfl rfl rfl lr (by decide) all0 ?_
  rintro _ _ _ _ X6 rfl K6 _ C6
  refine sk [.int 1] rfl <| on 17 X6 d60_14 rfl ((if0 _ _).trans (feq (by decide)).1) <| oI 18 X6 d60_17 rfl rfl <| mS 21 0 X6 (rm_au0 G (by decide)) (u62 G) all0 d60_18 rfl rfl rfl lr (by decide) all0 ?_
  rintro _ _ _ _ X7 rfl K7 _ C7
  refine sk [.int 1] rfl <| on 24 X7 d60_21 rfl ((if0 _ _).trans (feq (by decide)).1) <| oA 25 X7 d60_24 rfl rfl ?_
  have f8 := ((F3.k0 K3).k0 K6).k0 K7
  refine oF 28 X7 (w182 G) Via.refl f8 d60_25 rfl ?_
  intro _ X10
  refine oA 29 X10 d60_28 rfl rfl <| oD 30 X10 d60_29 rfl rfl ?_
  have f11 := ((F2.k0 K3).k0 K6).k0 K7
  refine oF 33 X10 (w206 G) Via.refl f11 d60_30 rfl ?_
  intro _ X13
  refine o_dupX1 34 X13 d60_33 rfl rfl rfl <| oc 35 (v := 1) X13 d60_34 rfl (by decide) <| o_iadd 36 (v := 9) X13 d60_35 rfl (by decide) ?_
  have f14 := (f5.keep K6).keep K7
  refine oP 39 (v' := (.int 9)) X13 (w206 G) Via.refl f11 f14 (Or.inl (w207 G)) (w169 G) fd_2 rfl rfl d60_36 rfl (by omega) (Or.inl (by simp)) (sx X13 f14 nc5) ?_
  intro _ _ X15 W15 C15
  have := W15.size
  have f16 := f11.same W15
  refine oI 40 X15 d60_39 rfl rfl <| o_i2b 41 (v := 93) X15 d60_40 rfl (by decide) ?_
  have f17 := (((F4.k0 K3).k0 K6).k0 K7).oth W15 (by omega)
  have f19 := C15.safe (own_lt (by omega)) (C7.safe (own_lt (by omega)) (C6.safe (own_lt (by omega)) (C3.safe (own_lt (by omega)) sf_pa2)))
  refine sB 42 8 93 X15 f17 (by decide) (lb rfl) (by decide) d60_41 rfl (by omega) (Or.inl (by simp)) f19 ?_
  rintro _ _ X18 ⟨_, _, W18⟩ _ V18
  have := W18.size
  have V20 := V18.as [.int 91, .int pi1, .int 44, .int 32, .int pi2, .int 44, .int 32, .int pi3, .int 93, i0, i0, i0, i0, i0, i0, i0] rfl
  refine og 75 X18 d60_42 (by decide) <| oA 76 X18 d60_75 rfl rfl ?_
  have f21 := (f14.wr W15).wr W18
  have f22 := (((f4.k0 K6).k0 K7).other W15 (Or.inr (sn16 G))).oth W18 (by omega)
  have f23 := f16.oth W18 (by omega)
  have f24 := (f8.other W15 (Or.inr (sn17 G))).oth W18 (by omega)
  have f25 := ((((F5.keep K3).keep K6).keep K7).wr W15).wr W18
  exact oR X18 d60_76 rfl rfl rfl (by decide) (by decide) (fun _ CC => ⟨rfl, f21, f22, f23, f24, V20, f25⟩)
theorem rm_au188 (G : GL l Z a0 zc dce kdce eed keed mroa mral mrul mrur) (F0 : ex6 Z h0 pa1) (F1 : fd10 Z h0 pa1 (.int 0)) (F2 : fd11 Z h0 pa1 (.int 8)) (F3 : fd9 Z h0 pa1 (.ref pa2)) (F4 : av0 Z h0 pa2 pk1 16 [.int 91, .int pi1, .int 44, .int 32, .int pi2, .int 44, .int 32, .int pi3, i0, i0, i0, i0, i0, i0, i0, i0]) (F5 : ex0 Z h0 pa2) (ne : NE pa1 pa2 ∧ n0 ≤ pa1 ∧ n0 ≤ pa2) : M59 l Z 2 0 0 27 #[.ref pa1, .int 93] h0 n0 [pa1, pa2] [pa2] (Q98 Z pa1 pa2 pk1 pi1 pi2 pi3 h0) := by
  refine mi B59 ef8 (hEW G) fun s X0 hsf0 n0le => ?_
  have := F0.l
  have := F4.l
  have sf_pa2 := hsf0 pa2 (by simp)
  refine oA 1 X0 d59_0 rfl rfl <| oI 2 X0 d59_1 rfl rfl <| mU 5 0 X0 F0 (rm_au187 G F0 F1 F2 F3 F4 F5 (by omega)) (u63 G) (sS (by omega) sf_pa2 all0) d59_2 rfl rfl rfl lr (by decide) (aI (by omega) (by simp) (aI (by omega) (by simp) all0)) ?_
  rintro _ _ _ _ X1 ⟨rfl, q2, q3, q4, q5, q6, q7⟩ _ _ _
  refine sk [.ref pa1] rfl <| o_pop 6 X1 d59_5 rfl rfl <| oA 7 X1 d59_6 rfl rfl ?_
  exact oR X1 d59_7 rfl rfl rfl (by decide) (by decide) (fun _ CC => ⟨rfl, q2, q3, q4, q5, q6, q7⟩)
def Q99 (Z : State) (b1 b2 b3 : Int32) (h0 : Heap) (v : Option Value) (h : Heap) (vm : Vm) : Prop := ∃ (xa1 : Addr) (xk1 : ClassId), v = some (.ref xa1) ∧ av0 Z h xa1 xk1 9 [.int 91, .int b1, .int 44, .int 32, .int b2, .int 44, .int 32, .int b3, .int 93] ∧ ex0 Z h xa1 ∧ Safe Z EL0 vm h xa1 ∧ h0.size ≤ xa1 ∧ h.size > xa1
theorem rm_au189 (G : GL l Z a0 zc dce kdce eed keed mroa mral mrul mrur) (F0 : av0 Z h0 pa1 pk1 16 [.int 91, .int pi1, .int 44, .int 32, .int pi2, .int 44, .int 32, .int pi3, .int 93, i0, i0, i0, i0, i0, i0, i0]) : M50 l Z 1 1 9 40 #[.ref pa1, i0, .int 9] h0 n0 [] [] (Q99 Z pi1 pi2 pi3 h0) := by
  refine mi B50 ef20 (hEW G) fun s X0 hsf0 n0le => ?_
  have := F0.l
  refine oI 1 X0 d50_0 rfl rfl <| oI 2 X0 d50_1 rfl rfl <| mS 5 0 X0 (rm_au54 G (by decide)) (u46 G) all0 d50_2 rfl rfl rfl lr (by decide) all0 ?_
  rintro _ _ _ _ X1 rfl K1 _ _
  refine sk [] rfl <| oI 6 X1 d50_5 rfl rfl <| oI 7 X1 d50_6 rfl rfl <| o_isub 8 (v := 9) X1 d50_7 rfl (by decide) <| oT 9 (l' := #[rr pa1, ii 0, ii 9, ii 9, uu]) X1 d50_8 rfl rfl <| oI 10 X1 d50_9 rfl rfl <| nP (aty := .byte) 12 9 X1 (w14 G) d50_10 rfl (by decide) had_byte ?_
  intro _ h2 b2 k2 X2 _ _ E2 V2 A2 _ S2
  have V3 : av0 Z h2 b2 k2 9 [i0, i0, i0, i0, i0, i0, i0, i0, i0] := V2.pad (pad_rep [] (.int (0 : Int32)) 9)
  refine oU 14 (l' := #[rr pa1, ii 0, ii 9, ii 9, rr b2]) X2 d50_12 rfl rfl rfl <| oA 15 X2 d50_14 rfl rfl <| oI 16 X2 d50_15 rfl rfl <| oa 18 X2 d50_16 rfl rfl <| oc 19 (v := 0) X2 d50_18 rfl (by decide) <| oA 20 X2 d50_19 rfl rfl ?_
  have f4 := (F0.k0 K1).ext E2
  refine oL 21 X2 f4 d50_20 rfl <| oI 22 X2 d50_21 rfl rfl <| o_isub 23 (v := 16) X2 d50_22 rfl (by decide) <| oI 24 X2 d50_23 rfl rfl <| mS 27 4 X2 (rm_au55 G (by decide)) (u13 G) all0 d50_24 rfl rfl rfl lr (by decide) all0 ?_
  rintro _ _ _ _ X5 rfl K5 _ C5
  refine sk [.int 9, i0, .ref b2, i0, .ref pa1] rfl ?_
  have f6 := f4.k0 K5
  have f7 := V3.k0 K5
  have f8 := C5.safe (own_lt (by omega)) S2
  refine o_cp 30 (us := [.int 91, .int pi1, .int 44, .int 32, .int pi2, .int 44, .int 32, .int pi3, .int 93]) (vr := [.int 91, .int pi1, .int 44, .int 32, .int pi2, .int 44, .int 32, .int pi3, .int 93]) (W := 0) X5 (w116 G) (w119 G) (w117 G) (w118 G) f6 f7 (Or.inl ⟨rfl, rfl⟩) (by decide) (by decide) (by decide) (by decide) (by decide) rfl (Nat.le_of_ble_eq_true rfl) rfl d50_27 rfl rfl (by decide) (Nat.le_of_eq rfl) (by decide) (by omega) (Or.inr (by omega)) f8 ?_
  intro _ _ X9 K9 C9 V9
  have := K9.1
  refine oa 32 X9 d50_30 rfl rfl ?_
  have f10 := (A2.keep K5).keep K9
  have f11 := C9.safe (own_lt (by omega)) f8
  exact oR X9 d50_32 rfl rfl rfl (by decide) (by decide) (fun _ CC => ⟨b2, k2, rfl, V9, f10, (CC.safe (own_lt (by omega)) f11), by omega⟩)
theorem rm_au190 (G : GL l Z a0 zc dce kdce eed keed mroa mral mrul mrur) (F0 : av0 Z h0 pa1 pk1 16 [.int 91, .int pi1, .int 44, .int 32, .int pi2, .int 44, .int 32, .int pi3, .int 93, i0, i0, i0, i0, i0, i0, i0]) : M49 l Z 2 1 9 56 #[.ref pa1, i0, .int 9] h0 n0 [] [] (Q99 Z pi1 pi2 pi3 h0) := by
  refine mi B49 ef19 (hEW G) fun s X0 hsf0 n0le => ?_
  have := F0.l
  refine oI 1 X0 d49_0 rfl rfl <| on 4 X0 d49_1 rfl ((if0 _ _).trans (teq (by decide)).2) <| oI 5 X0 d49_4 rfl rfl <| oA 6 X0 d49_5 rfl rfl <| oL 7 X0 F0 d49_6 rfl <| oN 10 X0 d49_7 rfl (feq (by decide)).1 <| oA 11 X0 d49_10 rfl rfl <| oI 12 X0 d49_11 rfl rfl <| oI 13 X0 d49_12 rfl rfl <| mS 16 0 X0 (rm_au189 G F0) (u47 G) all0 d49_13 rfl rfl rfl lr (by decide) all0 ?_
  rintro _ _ _ _ X1 ⟨xa1_2, xk1_3, rfl, q4, q5, q6, _⟩ _ _ _
  refine sk [.ref xa1_2] rfl ?_
  exact oR X1 d49_16 rfl rfl rfl (by decide) (by decide) (fun _ CC => ⟨xa1_2, xk1_3, rfl, q4, q5, (CC.safe (own_lt (by omega)) q6), by omega⟩)
def Q100 (Z : State) (b1 : Addr) (b2 b3 b4 : Int32) (h0 : Heap) (v : Option Value) (h : Heap) (vm : Vm) : Prop := ∃ (xa1 : Addr) (xk1 : ClassId), v = none ∧ ex1 Z h b1 ∧ fd1 Z h b1 (.int 0) ∧ fd0 Z h b1 (.ref xa1) ∧ av0 Z h xa1 xk1 9 [.int 91, .int b2, .int 44, .int 32, .int b3, .int 44, .int 32, .int b4, .int 93] ∧ ex0 Z h xa1 ∧ Safe Z EL0 vm h xa1 ∧ h0.size ≤ xa1 ∧ h.size > xa1
theorem rm_au191 (G : GL l Z a0 zc dce kdce eed keed mroa mral mrul mrur) (F0 : ex1 Z h0 pa1) (F1 : fd1 Z h0 pa1 (.int 0)) (F2 : fd0 Z h0 pa1 .null) (F3 : ex6 Z h0 pa2) (F4 : fd10 Z h0 pa2 (.int 0)) (F5 : fd11 Z h0 pa2 (.int 9)) (F6 : fd9 Z h0 pa2 (.ref pa3)) (F7 : av0 Z h0 pa3 pk1 16 [.int 91, .int pi1, .int 44, .int 32, .int pi2, .int 44, .int 32, .int pi3, .int 93, i0, i0, i0, i0, i0, i0, i0]) (ne : NE pa1 pa2 ∧ NE pa1 pa3 ∧ n0 ≤ pa1) : M44 l Z 3 1 9 71 #[.ref pa1, .ref pa2, .null] h0 n0 [pa1] [pa1] (Q100 Z pa1 pi1 pi2 pi3 h0) := by
  refine mi B44 ef18 (hEW G) fun s X0 hsf0 n0le => ?_
  have := F0.l
  have := F3.l
  have := F7.l
  have sf_pa1 := hsf0 pa1 (by simp)
  refine oA 1 X0 d44_0 rfl rfl <| o_initO 4 (W := 0) X0 (w19 G) (w20 G) (w21 G) rfl (by decide) (Nat.le_of_eq rfl) (by decide) d44_1 rfl ?_
  intro _ X2
  refine oA 5 X2 d44_4 rfl rfl <| mV 8 0 X2 F3 (rm_au50 G F6) (u42 G) all0 d44_5 rfl rfl rfl lr (by decide) all0 ?_
  rintro _ _ _ _ X3 rfl K3 _ C3
  refine sk [.ref pa3] rfl <| oV 9 (l' := #[rr pa1, rr pa2, .val .null, rr pa3, uu]) X3 d44_8 rfl rfl rfl <| oA 10 X3 d44_9 rfl rfl ?_
  have f4 := F3.keep K3
  have f5 := F5.k0 K3
  refine mV 13 0 X3 f4 (rm_au52 G f4 f5) (u44 G) all0 d44_10 rfl rfl rfl lr (by decide) all0 ?_
  rintro _ _ _ _ X6 rfl K6 _ C6
  refine sk [.int 9] rfl <| oS 15 (l' := #[rr pa1, rr pa2, .val .null, rr pa3, ii 9]) X6 d44_13 rfl rfl <| oA 16 X6 d44_15 rfl rfl ?_
  have f7 := (F4.k0 K3).k0 K6
  have f8 := f4.keep K6
  refine mV 19 0 X6 f8 (rm_au53 G f7 (by decide)) (u45 G) all0 d44_16 rfl rfl rfl lr (by decide) all0 ?_
  rintro _ _ _ _ X9 rfl K9 _ C9
  refine sk [.int 1] rfl <| on 22 X9 d44_19 rfl ((if0 _ _).trans (feq (by decide)).1) <| oA 23 X9 d44_22 rfl rfl <| oc 24 (v := 0) X9 d44_23 rfl (by decide) ?_
  have f10 := ((F1.k0 K3).k0 K6).k0 K9
  have f11 := ((F0.keep K3).keep K6).keep K9
  have f13 := C9.safe (own_lt (by omega)) (C6.safe (own_lt (by omega)) (C3.safe (own_lt (by omega)) sf_pa1))
  refine oP 27 (v' := (.int 0)) X9 (w24 G) Via.refl f10 f11 (Or.inr ⟨(w25 G), rfl, rfl⟩) (w10 G) fd_1 rfl rfl d44_24 rfl (by omega) (Or.inl (by simp)) f13 ?_
  intro _ _ X12 W12 C12
  have := W12.size
  have f14 := f10.same W12
  refine oA 28 X12 d44_27 rfl rfl <| oA 29 X12 d44_28 rfl rfl <| oc 30 (v := 0) X12 d44_29 rfl (by decide) <| oi 32 X12 d44_30 rfl rfl ?_
  have f15 := (((F7.k0 K3).k0 K6).k0 K9).oth W12 (by omega)
  refine mS 35 1 X12 (rm_au190 G f15) (u48 G) all0 d44_32 rfl rfl rfl lr (by decide) all0 ?_
  rintro _ _ _ _ X16 ⟨xa1_17, xk1_18, rfl, q19, q20, q21, _⟩ K16 _ C16
  refine sk [.ref xa1_17, .ref pa1] rfl ?_
  have f23 := ((((F2.k0 K3).k0 K6).k0 K9).other W12 (Or.inr (sn1 G))).k0 K16
  have f24 := (f11.wr W12).keep K16
  have f26 := C16.safe (own_lt (by omega)) (C12.safe (own_lt (by omega)) f13)
  refine oP 38 (v' := (.ref xa1_17)) X16 (w22 G) Via.refl f23 f24 (Or.inr ⟨(w23 G), rfl, rfl⟩) (w10 G) fd_0 rfl rfl d44_35 rfl (by omega) (Or.inl (by simp)) f26 ?_
  intro _ _ X25 W25 C25
  have := W25.size
  have f27 := f23.same W25
  refine og 97 X25 d44_38 (by decide) ?_
  have f28 := f24.wr W25
  have f29 := (f14.k0 K16).other W25 (Or.inr (sn0 G))
  have f30 := q19.oth W25 (by omega)
  have f31 := q20.wr W25
  have f32 := C25.safe (own_lt (by omega)) q21
  exact oz X25 d44_97 rfl (by decide) (by decide) (fun _ CC => ⟨xa1_17, xk1_18, rfl, f28, f29, f27, f30, f31, (CC.safe (own_lt (by omega)) f32), by omega⟩)
theorem rm_au192 (G : GL l Z a0 zc dce kdce eed keed mroa mral mrul mrur) (F0 : ex1 Z h0 pa1) (F1 : fd1 Z h0 pa1 (.int 0)) (F2 : fd0 Z h0 pa1 .null) (F3 : ex6 Z h0 pa2) (F4 : fd10 Z h0 pa2 (.int 0)) (F5 : fd11 Z h0 pa2 (.int 9)) (F6 : fd9 Z h0 pa2 (.ref pa3)) (F7 : av0 Z h0 pa3 pk1 16 [.int 91, .int pi1, .int 44, .int 32, .int pi2, .int 44, .int 32, .int pi3, .int 93, i0, i0, i0, i0, i0, i0, i0]) (ne : NE pa1 pa2 ∧ NE pa1 pa3 ∧ n0 ≤ pa1) : M43 l Z 4 1 9 87 #[.ref pa1, .ref pa2] h0 n0 [pa1] [pa1] (Q100 Z pa1 pi1 pi2 pi3 h0) := by
  refine mi B43 ef4 (hEW G) fun s X0 hsf0 n0le => ?_
  have := F0.l
  have := F3.l
  have := F7.l
  have sf_pa1 := hsf0 pa1 (by simp)
  refine oA 1 X0 d43_0 rfl rfl <| oA 2 X0 d43_1 rfl rfl <| o_aconstNull 3 X0 d43_2 rfl <| mP 6 0 X0 (rm_au191 G F0 F1 F2 F3 F4 F5 F6 F7 (by omega)) (u49 G) (sS (by omega) sf_pa1 all0) d43_3 rfl rfl rfl lr (by decide) (aI (by omega) (by simp) all0) ?_
  rintro _ _ _ _ X1 ⟨xa1_2, xk1_3, rfl, q4, q5, q6, q7, q8, q9, _⟩ _ _ _
  refine sk [] rfl ?_
  exact oz X1 d43_6 rfl (by decide) (by decide) (fun _ CC => ⟨xa1_2, xk1_3, rfl, q4, q5, q6, q7, q8, (CC.safe (own_lt (by omega)) q9), by omega⟩)
def Q101 (Z : State) (b1 b2 b3 : Int32) (h0 : Heap) (v : Option Value) (h : Heap) (vm : Vm) : Prop := ∃ (xa1 : Addr) (xa2 : Addr) (xk1 : ClassId), v = some (.ref xa1) ∧ ex1 Z h xa1 ∧ fd1 Z h xa1 (.int 0) ∧ fd0 Z h xa1 (.ref xa2) ∧ Safe Z EL0 vm h xa1 ∧ av0 Z h xa2 xk1 9 [.int 91, .int b1, .int 44, .int 32, .int b2, .int 44, .int 32, .int b3, .int 93] ∧ ex0 Z h xa2 ∧ Safe Z EL0 vm h xa2 ∧ h0.size ≤ xa1 ∧ h.size > xa1 ∧ h0.size ≤ xa2 ∧ h.size > xa2 ∧ NE xa1 xa2
theorem rm_au193 (G : GL l Z a0 zc dce kdce eed keed mroa mral mrul mrur) (F0 : ex6 Z h0 pa1) (F1 : fd10 Z h0 pa1 (.int 0)) (F2 : fd11 Z h0 pa1 (.int 9)) (F3 : fd9 Z h0 pa1 (.ref pa2)) (F4 : av0 Z h0 pa2 pk1 16 [.int 91, .int pi1, .int 44, .int 32, .int pi2, .int 44, .int 32, .int pi3, .int 93, i0, i0, i0, i0, i0, i0, i0]) : M42 l Z 5 2 13 101 #[.ref pa1] h0 n0 [] [] (Q101 Z pi1 pi2 pi3 h0) := by
  refine mi B42 ef9 (hEW G) fun s X0 hsf0 n0le => ?_
  have l1 := F0.l
  have := F4.l
  refine o_new 3 X0 (w294 G) (w10 G) (w2 G) d42_0 rfl (by decide) (by decide) ?_
  intro _ h1 b1 X1 _ l1 E1 A1 D1 _ _ S1
  have f2 : fd0 Z h1 b1 .null := D1 (Or.inr (w23 G)) fd_0
  have f3 : fd1 Z h1 b1 (.int 0) := D1 (Or.inr (w25 G)) fd_1
  refine oD 4 X1 d42_3 rfl rfl <| oA 5 X1 d42_4 rfl rfl ?_
  have f4 := F0.ext E1
  have f5 := F1.ext E1
  have f6 := F2.ext E1
  have f7 := F3.ext E1
  have f8 := F4.ext E1
  refine mP 8 1 X1 (rm_au192 G A1 f3 f2 f4 f5 f6 f7 f8 (by omega)) (u50 G) (sS (by omega) S1 all0) d42_5 rfl rfl rfl lr (by decide) (aR (by omega) all0) ?_
  rintro _ _ _ _ X9 ⟨xa1_10, xk1_11, rfl, q12, q13, q14, q15, q16, q17, _⟩ _ _ C9
  refine sk [.ref b1] rfl ?_
  have f19 := C9.safe (own_lt (by omega)) S1
  exact oR X9 d42_8 rfl rfl rfl (by decide) (by decide) (fun _ CC => ⟨b1, xa1_10, xk1_11, rfl, q12, q13, q14, (CC.safe (own_lt (by omega)) f19), q15, q16, (CC.safe (own_lt (by omega)) q17), by omega⟩)
theorem rm_au194 (G : GL l Z a0 zc dce kdce eed keed mroa mral mrul mrur) (F0 : ex2 Z h0 pa1) (F1 : fd3 Z h0 pa1 (.ref pa2)) (F2 : fd2 Z h0 pa1 (.int 0)) (F3 : fd4 Z h0 pa1 (.int 3)) (F4 : av2 Z h0 pa2 pk1 3 [.ref pa3, .ref pa4, .ref pa5]) (F5 : ex1 Z h0 pa3) (F6 : fd1 Z h0 pa3 (.int 0)) (F7 : fd0 Z h0 pa3 (.ref pa6)) (F8 : ex1 Z h0 pa4) (F9 : fd1 Z h0 pa4 (.int 0)) (F10 : fd0 Z h0 pa4 (.ref pa7)) (F11 : ex1 Z h0 pa5) (F12 : fd1 Z h0 pa5 (.int 0)) (F13 : fd0 Z h0 pa5 (.ref pa8)) (F14 : av0 Z h0 pa6 pk2 1 [.int pi1]) (F15 : av0 Z h0 pa7 pk3 1 [.int pi2]) (F16 : av0 Z h0 pa8 pk4 1 [.int pi3]) (ne : NE pa1 pa3 ∧ NE pa1 pa4 ∧ NE pa1 pa5) : M38 l Z 6 5 37 113 #[.ref pa1] h0 n0 [] [] (Q101 Z pi1 pi2 pi3 h0) := by
  refine mi B38 ef17 (hEW G) fun s X0 hsf0 n0le => ?_
  have := F0.l
  have := F4.l
  have := F5.l
  have := F8.l
  have := F11.l
  have := F14.l
  have := F15.l
  have := F16.l
  refine oA 1 X0 d38_0 rfl rfl <| mV 4 0 X0 F0 (rm_au38 G F2) (u35 G) all0 d38_1 rfl rfl rfl lr (by decide) all0 ?_
  rintro _ _ _ _ X1 ⟨xa1_2, rfl, q3, q4, q5, q6, q7, _⟩ K1 _ _
  refine sk [.ref xa1_2] rfl <| oV 5 (l' := #[rr pa1, rr xa1_2, uu, uu]) X1 d38_4 rfl rfl rfl <| oA 6 X1 d38_5 rfl rfl ?_
  have f9 := F3.k0 K1
  refine mF 11 0 X1 q3 (rm_au80 G q4 q7 f9 (by decide)) (u36 G) all0 d38_6 rfl rfl rfl lr (by decide) all0 ?_
  rintro _ _ _ _ X10 rfl K10 _ _
  refine sk [.int 1] rfl <| oy 17 X10 d38_11 (by decide) ((if0 _ _).trans (feq (by decide)).2) <| o_new 20 X10 (w366 G) (w169 G) (w170 G) d38_17 rfl (by decide) (by decide) ?_
  intro _ h11 b11 X11 _ _ E11 A11 D11 _ _ _
  have f12 : fd9 Z h11 b11 .null := D11 (Or.inl (w183 G)) fd_0
  have f13 : fd10 Z h11 b11 (.int 0) := D11 (Or.inl (w185 G)) fd_1
  have f14 : fd11 Z h11 b11 (.int 0) := D11 (Or.inl (w207 G)) fd_2
  refine oD 21 X11 d38_20 rfl rfl <| mP 24 1 X11 (rm_au24 G A11 f13 f14 f12 (by omega)) (u60 G) all0 d38_21 rfl rfl rfl lr (by decide) (aR (by omega) all0) ?_
  rintro _ _ _ _ X15 ⟨_, _, rfl, q18, q19, q20, q21, q22, q23, q24, _⟩ K15 _ _
  refine sk [.ref b11] rfl <| oV 25 (l' := #[rr pa1, rr xa1_2, rr b11, uu]) X15 d38_24 rfl rfl rfl <| oA 26 X15 d38_25 rfl rfl <| ob 28 (v := 91) X15 d38_26 rfl (by decide) <| mV 31 0 X15 q18 (rm_au83 G q18 q19 q20 q21 q22 q23 (by omega)) (u64 G) (sS (by omega) q24 all0) d38_28 rfl rfl rfl lr (by decide) (aR (by omega) (aR (by omega) all0)) ?_
  rintro _ _ _ _ X26 ⟨rfl, q27, q28, q29, q30, q31, q32⟩ K26 _ C26
  refine sk [.ref b11] rfl <| o_pop 32 X26 d38_31 rfl rfl <| oA 33 X26 d38_32 rfl rfl ?_
  have f33 := (((q3.keep K10).ext E11).keep K15).keep K26
  have f34 := (((q4.k0 K10).ext E11).k1 K15 (by omega)).k2 K26 (by omega)
  have f35 := (((q5.k0 K10).ext E11).k1 K15 (by omega)).k2 K26 (by omega)
  have f36 := (((q6.k0 K10).ext E11).k1 K15 (by omega)).k2 K26 (by omega)
  have f37 := (((q7.k0 K10).ext E11).k1 K15 (by omega)).k2 K26 (by omega)
  have f38 := ((((F1.k0 K1).k0 K10).ext E11).k1 K15 (by omega)).k2 K26 (by omega)
  have f39 := ((((F2.k0 K1).k0 K10).ext E11).k1 K15 (by omega)).k2 K26 (by omega)
  have f40 := (((f9.k0 K10).ext E11).k1 K15 (by omega)).k2 K26 (by omega)
  have f41 := ((((F4.k0 K1).k0 K10).ext E11).k1 K15 (by omega)).k2 K26 (by omega)
  refine mF 38 0 X26 f33 (rm_au175 G f33 f34 f35 f36 f37 f38 f39 f40 f41 (by decide) (by omega)) (u66 G) all0 d38_33 rfl rfl rfl lr (by decide) (aR (by omega) all0) ?_
  rintro _ _ _ _ X42 ⟨rfl, q43, q44, q45, q46, q47⟩ K42 _ C42
  refine sk [.ref pa3] rfl <| oV 39 (l' := #[rr pa1, rr xa1_2, rr b11, rr pa3]) X42 d38_38 rfl rfl rfl <| oA 40 X42 d38_39 rfl rfl <| oA 41 X42 d38_40 rfl rfl <| oA 42 X42 d38_41 rfl rfl <| o_acmp 50 (same := false) X42 d38_42 rfl rfl (decide_eq_false (fun q => absurd (Value.ref.inj q) (own_ne (by omega)))) (by decide) (by decide) <| oA 51 X42 d38_50 rfl rfl ?_
  have f48 := q27.keep K42
  have f49 := q28.k1 K42 (by omega)
  have f50 := q29.k1 K42 (by omega)
  have f51 := q30.k1 K42 (by omega)
  have f52 := (((((F5.keep K1).keep K10).ext E11).keep K15).keep K26).keep K42
  have f53 := (((((F6.k0 K1).k0 K10).ext E11).k1 K15 (by omega)).k2 K26 (by omega)).k1 K42 (by omega)
  have f54 := (((((F7.k0 K1).k0 K10).ext E11).k1 K15 (by omega)).k2 K26 (by omega)).k1 K42 (by omega)
  have f55 := q31.k1 K42 (by omega)
  have f56 := q32.keep K42
  have f57 := (((((F14.k0 K1).k0 K10).ext E11).k1 K15 (by omega)).k2 K26 (by omega)).k1 K42 (by omega)
  have f58 := C42.safe (own_lt (by omega)) (C26.safe (own_lt (by omega)) q24)
  refine mV 54 0 X42 f48 (rm_au88 G f48 f49 f50 f51 f52 f53 f54 f55 f56 f57 (by omega)) (u68 G) (sS (by omega) f58 all0) d38_51 rfl rfl rfl lr (by decide) (aR (by omega) (aR (by omega) all0)) ?_
  rintro _ _ _ _ X59 ⟨rfl, q60, q61, q62, q63, q64, q65⟩ K59 _ C59
  refine sk [.ref b11] rfl <| o_pop 55 X59 d38_54 rfl rfl <| oA 56 X59 d38_55 rfl rfl ?_
  have f66 := q44.k2 K59 (by omega)
  have f67 := q47.k2 K59 (by omega)
  have f68 := (f40.k1 K42 (by omega)).k2 K59 (by omega)
  have f69 := q43.keep K59
  refine mF 61 0 X59 f69 (rm_au80 G f66 f67 f68 (by decide)) (u36 G) all0 d38_56 rfl rfl rfl lr (by decide) all0 ?_
  rintro _ _ _ _ X70 rfl K70 _ C70
  refine sk [.int 1] rfl <| oy 74 X70 d38_61 (by decide) ((if0 _ _).trans (feq (by decide)).2) <| oA 75 X70 d38_74 rfl rfl <| ob 77 (v := 44) X70 d38_75 rfl (by decide) ?_
  have f71 := q60.keep K70
  have f72 := q61.k0 K70
  have f73 := q62.k0 K70
  have f74 := q63.k0 K70
  have f75 := q64.k0 K70
  have f76 := q65.keep K70
  have f77 := C70.safe (own_lt (by omega)) (C59.safe (own_lt (by omega)) f58)
  refine mV 80 0 X70 f71 (rm_au128 G f71 f72 f73 f74 f75 f76 (by omega)) (u64 G) (sS (by omega) f77 all0) d38_77 rfl rfl rfl lr (by decide) (aR (by omega) (aR (by omega) all0)) ?_
  rintro _ _ _ _ X78 ⟨rfl, q79, q80, q81, q82, q83, q84⟩ K78 _ C78
  refine sk [.ref b11] rfl <| ob 82 (v := 32) X78 d38_80 rfl (by decide) ?_
  have f85 := C78.safe (own_lt (by omega)) f77
  refine mV 85 0 X78 q79 (rm_au130 G q79 q80 q81 q82 q83 q84 (by omega)) (u64 G) (sS (by omega) f85 all0) d38_82 rfl rfl rfl lr (by decide) (aR (by omega) (aR (by omega) all0)) ?_
  rintro _ _ _ _ X86 ⟨rfl, q87, q88, q89, q90, q91, q92⟩ K86 _ C86
  refine sk [.ref b11] rfl <| o_pop 86 X86 d38_85 rfl rfl <| og 32 X86 d38_86 (by decide) <| oA 33 X86 d38_32 rfl rfl ?_
  have f93 := ((f69.keep K70).keep K78).keep K86
  have f94 := ((f66.k0 K70).k2 K78 (by omega)).k2 K86 (by omega)
  have f95 := (((q45.k2 K59 (by omega)).k0 K70).k2 K78 (by omega)).k2 K86 (by omega)
  have f96 := (((q46.k2 K59 (by omega)).k0 K70).k2 K78 (by omega)).k2 K86 (by omega)
  have f97 := ((f67.k0 K70).k2 K78 (by omega)).k2 K86 (by omega)
  have f98 := ((((f38.k1 K42 (by omega)).k2 K59 (by omega)).k0 K70).k2 K78 (by omega)).k2 K86 (by omega)
  have f99 := ((((f39.k1 K42 (by omega)).k2 K59 (by omega)).k0 K70).k2 K78 (by omega)).k2 K86 (by omega)
  have f100 := ((f68.k0 K70).k2 K78 (by omega)).k2 K86 (by omega)
  have f101 := ((((f41.k1 K42 (by omega)).k2 K59 (by omega)).k0 K70).k2 K78 (by omega)).k2 K86 (by omega)
  refine mF 38 0 X86 f93 (rm_au176 G f93 f94 f95 f96 f97 f98 f99 f100 f101 (by omega)) (u66 G) all0 d38_33 rfl rfl rfl lr (by decide) (aR (by omega) all0) ?_
  rintro _ _ _ _ X102 ⟨rfl, q103, q104, q105, q106, q107⟩ K102 _ C102
  refine sk [.ref pa4] rfl <| oV 39 (l' := #[rr pa1, rr xa1_2, rr b11, rr pa4]) X102 d38_38 rfl rfl rfl <| oA 40 X102 d38_39 rfl rfl <| oA 41 X102 d38_40 rfl rfl <| oA 42 X102 d38_41 rfl rfl <| o_acmp 50 (same := false) X102 d38_42 rfl rfl (decide_eq_false (fun q => absurd (Value.ref.inj q) (own_ne (by omega)))) (by decide) (by decide) <| oA 51 X102 d38_50 rfl rfl ?_
  have f108 := q87.keep K102
  have f109 := q88.k1 K102 (by omega)
  have f110 := q89.k1 K102 (by omega)
  have f111 := q90.k1 K102 (by omega)
  have f112 := ((((((((((F8.keep K1).keep K10).ext E11).keep K15).keep K26).keep K42).keep K59).keep K70).keep K78).keep K86).keep K102
  have f113 := ((((((((((F9.k0 K1).k0 K10).ext E11).k1 K15 (by omega)).k2 K26 (by omega)).k1 K42 (by omega)).k2 K59 (by omega)).k0 K70).k2 K78 (by omega)).k2 K86 (by omega)).k1 K102 (by omega)
  have f114 := ((((((((((F10.k0 K1).k0 K10).ext E11).k1 K15 (by omega)).k2 K26 (by omega)).k1 K42 (by omega)).k2 K59 (by omega)).k0 K70).k2 K78 (by omega)).k2 K86 (by omega)).k1 K102 (by omega)
  have f115 := q91.k1 K102 (by omega)
  have f116 := q92.keep K102
  have f117 := ((((((((((F15.k0 K1).k0 K10).ext E11).k1 K15 (by omega)).k2 K26 (by omega)).k1 K42 (by omega)).k2 K59 (by omega)).k0 K70).k2 K78 (by omega)).k2 K86 (by omega)).k1 K102 (by omega)
  have f118 := C102.safe (own_lt (by omega)) (C86.safe (own_lt (by omega)) f85)
  refine mV 54 0 X102 f108 (rm_au137 G f108 f109 f110 f111 f112 f113 f114 f115 f116 f117 (by omega)) (u68 G) (sS (by omega) f118 all0) d38_51 rfl rfl rfl lr (by decide) (aR (by omega) (aR (by omega) all0)) ?_
  rintro _ _ _ _ X119 ⟨rfl, q120, q121, q122, q123, q124, q125⟩ K119 _ C119
  refine sk [.ref b11] rfl <| o_pop 55 X119 d38_54 rfl rfl <| oA 56 X119 d38_55 rfl rfl ?_
  have f126 := q104.k2 K119 (by omega)
  have f127 := q107.k2 K119 (by omega)
  have f128 := (f100.k1 K102 (by omega)).k2 K119 (by omega)
  have f129 := q103.keep K119
  refine mF 61 0 X119 f129 (rm_au80 G f126 f127 f128 (by decide)) (u36 G) all0 d38_56 rfl rfl rfl lr (by decide) all0 ?_
  rintro _ _ _ _ X130 rfl K130 _ C130
  refine sk [.int 1] rfl <| oy 74 X130 d38_61 (by decide) ((if0 _ _).trans (feq (by decide)).2) <| oA 75 X130 d38_74 rfl rfl <| ob 77 (v := 44) X130 d38_75 rfl (by decide) ?_
  have f131 := q120.keep K130
  have f132 := q121.k0 K130
  have f133 := q122.k0 K130
  have f134 := q123.k0 K130
  have f135 := q124.k0 K130
  have f136 := q125.keep K130
  have f137 := C130.safe (own_lt (by omega)) (C119.safe (own_lt (by omega)) f118)
  refine mV 80 0 X130 f131 (rm_au178 G f131 f132 f133 f134 f135 f136 (by omega)) (u64 G) (sS (by omega) f137 all0) d38_77 rfl rfl rfl lr (by decide) (aR (by omega) (aR (by omega) all0)) ?_
  rintro _ _ _ _ X138 ⟨rfl, q139, q140, q141, q142, q143, q144⟩ K138 _ C138
  refine sk [.ref b11] rfl <| ob 82 (v := 32) X138 d38_80 rfl (by decide) ?_
  have f145 := C138.safe (own_lt (by omega)) f137
  refine mV 85 0 X138 q139 (rm_au180 G q139 q140 q141 q142 q143 q144 (by omega)) (u64 G) (sS (by omega) f145 all0) d38_82 rfl rfl rfl lr (by decide) (aR (by omega) (aR (by omega) all0)) ?_
  rintro _ _ _ _ X146 ⟨rfl, q147, q148, q149, q150, q151, q152⟩ K146 _ C146
  refine sk [.ref b11] rfl <| o_pop 86 X146 d38_85 rfl rfl <| og 32 X146 d38_86 (by decide) <| oA 33 X146 d38_32 rfl rfl ?_
  have f153 := ((f129.keep K130).keep K138).keep K146
  have f154 := ((f126.k0 K130).k2 K138 (by omega)).k2 K146 (by omega)
  have f155 := (((q105.k2 K119 (by omega)).k0 K130).k2 K138 (by omega)).k2 K146 (by omega)
  have f156 := (((q106.k2 K119 (by omega)).k0 K130).k2 K138 (by omega)).k2 K146 (by omega)
  have f157 := ((f127.k0 K130).k2 K138 (by omega)).k2 K146 (by omega)
  have f158 := ((((f98.k1 K102 (by omega)).k2 K119 (by omega)).k0 K130).k2 K138 (by omega)).k2 K146 (by omega)
  have f159 := ((((f99.k1 K102 (by omega)).k2 K119 (by omega)).k0 K130).k2 K138 (by omega)).k2 K146 (by omega)
  have f160 := ((f128.k0 K130).k2 K138 (by omega)).k2 K146 (by omega)
  have f161 := ((((f101.k1 K102 (by omega)).k2 K119 (by omega)).k0 K130).k2 K138 (by omega)).k2 K146 (by omega)
  refine mF 38 0 X146 f153 (rm_au181 G f153 f154 f155 f156 f157 f158 f159 f160 f161 (by omega)) (u66 G) all0 d38_33 rfl rfl rfl lr (by decide) (aR (by omega) all0) ?_
  rintro _ _ _ _ X162 ⟨rfl, q163, q164, _, _, q167⟩ K162 _ C162
  refine sk [.ref pa5] rfl <| oV 39 (l' := #[rr pa1, rr xa1_2, rr b11, rr pa5]) X162 d38_38 rfl rfl rfl <| oA 40 X162 d38_39 rfl rfl <| oA 41 X162 d38_40 rfl rfl <| oA 42 X162 d38_41 rfl rfl <| o_acmp 50 (same := false) X162 d38_42 rfl rfl (decide_eq_false (fun q => absurd (Value.ref.inj q) (own_ne (by omega)))) (by decide) (by decide) <| oA 51 X162 d38_50 rfl rfl ?_
  have f168 := q147.keep K162
  have f169 := q148.k1 K162 (by omega)
  have f170 := q149.k1 K162 (by omega)
  have f171 := q150.k1 K162 (by omega)
  have f172 := (((((((((((((((F11.keep K1).keep K10).ext E11).keep K15).keep K26).keep K42).keep K59).keep K70).keep K78).keep K86).keep K102).keep K119).keep K130).keep K138).keep K146).keep K162
  have f173 := (((((((((((((((F12.k0 K1).k0 K10).ext E11).k1 K15 (by omega)).k2 K26 (by omega)).k1 K42 (by omega)).k2 K59 (by omega)).k0 K70).k2 K78 (by omega)).k2 K86 (by omega)).k1 K102 (by omega)).k2 K119 (by omega)).k0 K130).k2 K138 (by omega)).k2 K146 (by omega)).k1 K162 (by omega)
  have f174 := (((((((((((((((F13.k0 K1).k0 K10).ext E11).k1 K15 (by omega)).k2 K26 (by omega)).k1 K42 (by omega)).k2 K59 (by omega)).k0 K70).k2 K78 (by omega)).k2 K86 (by omega)).k1 K102 (by omega)).k2 K119 (by omega)).k0 K130).k2 K138 (by omega)).k2 K146 (by omega)).k1 K162 (by omega)
  have f175 := q151.k1 K162 (by omega)
  have f176 := q152.keep K162
  have f177 := (((((((((((((((F16.k0 K1).k0 K10).ext E11).k1 K15 (by omega)).k2 K26 (by omega)).k1 K42 (by omega)).k2 K59 (by omega)).k0 K70).k2 K78 (by omega)).k2 K86 (by omega)).k1 K102 (by omega)).k2 K119 (by omega)).k0 K130).k2 K138 (by omega)).k2 K146 (by omega)).k1 K162 (by omega)
  have f178 := C162.safe (own_lt (by omega)) (C146.safe (own_lt (by omega)) f145)
  refine mV 54 0 X162 f168 (rm_au186 G f168 f169 f170 f171 f172 f173 f174 f175 f176 f177 (by omega)) (u68 G) (sS (by omega) f178 all0) d38_51 rfl rfl rfl lr (by decide) (aR (by omega) (aR (by omega) all0)) ?_
  rintro _ _ _ _ X179 ⟨rfl, q180, q181, q182, q183, q184, q185⟩ K179 _ C179
  refine sk [.ref b11] rfl <| o_pop 55 X179 d38_54 rfl rfl <| oA 56 X179 d38_55 rfl rfl ?_
  have f186 := q164.k2 K179 (by omega)
  have f187 := q167.k2 K179 (by omega)
  have f188 := (f160.k1 K162 (by omega)).k2 K179 (by omega)
  have f189 := q163.keep K179
  refine mF 61 0 X179 f189 (rm_au39 G f186 f187 f188 (by decide)) (u36 G) all0 d38_56 rfl rfl rfl lr (by decide) all0 ?_
  rintro _ _ _ _ X190 rfl K190 _ C190
  refine sk [i0] rfl <| on 64 X190 d38_61 rfl ((if0 _ _).trans (teq (by decide)).2) <| oA 65 X190 d38_64 rfl rfl <| ob 67 (v := 93) X190 d38_65 rfl (by decide) ?_
  have f191 := q180.keep K190
  have f192 := q181.k0 K190
  have f193 := q182.k0 K190
  have f194 := q183.k0 K190
  have f195 := q184.k0 K190
  have f196 := q185.keep K190
  have f197 := C190.safe (own_lt (by omega)) (C179.safe (own_lt (by omega)) f178)
  refine mV 70 0 X190 f191 (rm_au188 G f191 f192 f193 f194 f195 f196 (by omega)) (u64 G) (sS (by omega) f197 all0) d38_67 rfl rfl rfl lr (by decide) (aR (by omega) (aR (by omega) all0)) ?_
  rintro _ _ _ _ X198 ⟨rfl, q199, q200, q201, q202, q203, _⟩ _ _ _
  refine sk [.ref b11] rfl <| mV 73 0 X198 q199 (rm_au193 G q199 q200 q201 q202 q203) (u69 G) all0 d38_70 rfl rfl rfl lr (by decide) all0 ?_
  rintro _ _ _ _ X205 ⟨xa1_206, xa2_207, xk1_208, rfl, q209, q210, q211, q212, q213, q214, q215, _⟩ _ _ _
  refine sk [.ref xa1_206] rfl ?_
  exact oR X205 d38_73 rfl rfl rfl (by decide) (by decide) (fun _ CC => ⟨xa1_206, xa2_207, xk1_208, rfl, q209, q210, q211, (CC.safe (own_lt (by omega)) q212), q213, q214, (CC.safe (own_lt (by omega)) q215), by omega⟩)
theorem rm_au195 (G : GL l Z a0 zc dce kdce eed keed mroa mral mrul mrur) (F0 : fd7 Z h0 pa1 (.ref pa2)) (F1 : ex2 Z h0 pa2) (F2 : fd3 Z h0 pa2 (.ref pa3)) (F3 : fd2 Z h0 pa2 (.int 0)) (F4 : fd4 Z h0 pa2 (.int 3)) (F5 : av2 Z h0 pa3 pk1 3 [.ref pa4, .ref pa5, .ref pa6]) (F6 : ex1 Z h0 pa4) (F7 : fd1 Z h0 pa4 (.int 0)) (F8 : fd0 Z h0 pa4 (.ref pa7)) (F9 : ex1 Z h0 pa5) (F10 : fd1 Z h0 pa5 (.int 0)) (F11 : fd0 Z h0 pa5 (.ref pa8)) (F12 : ex1 Z h0 pa6) (F13 : fd1 Z h0 pa6 (.int 0)) (F14 : fd0 Z h0 pa6 (.ref pa9)) (F15 : av0 Z h0 pa7 pk2 1 [.int pi1]) (F16 : av0 Z h0 pa8 pk3 1 [.int pi2]) (F17 : av0 Z h0 pa9 pk4 1 [.int pi3]) (ne : NE pa2 pa4 ∧ NE pa2 pa5 ∧ NE pa2 pa6) : M37 l Z 7 5 37 128 #[.ref pa1] h0 n0 [] [] (Q101 Z pi1 pi2 pi3 h0) := by
  refine mi B37 ef9 (hEW G) fun s X0 hsf0 n0le => ?_
  have := F0.l
  have := F1.l
  have := F5.l
  have := F6.l
  have := F9.l
  have := F12.l
  have := F15.l
  have := F16.l
  have := F17.l
  refine oA 1 X0 d37_0 rfl rfl <| oF 4 X0 (w157 G) Via.refl F0 d37_1 rfl ?_
  intro _ X2
  refine m_ifaceUp 9 0 X2 F1 (rm_au194 G F1 F2 F3 F4 F5 F6 F7 F8 F9 F10 F11 F12 F13 F14 F15 F16 F17 (by omega)) (u37 G) all0 d37_4 rfl rfl rfl lr (by decide) all0 ?_
  rintro _ _ _ _ X3 ⟨xa1_4, xa2_5, xk1_6, rfl, q7, q8, q9, q10, q11, q12, q13, _⟩ _ _ _
  refine sk [.ref xa1_4] rfl ?_
  exact oR X3 d37_9 rfl rfl rfl (by decide) (by decide) (fun _ CC => ⟨xa1_4, xa2_5, xk1_6, rfl, q7, q8, q9, (CC.safe (own_lt (by omega)) q10), q11, q12, (CC.safe (own_lt (by omega)) q13), by omega⟩)
theorem rm_au196 (G : GL l Z a0 zc dce kdce eed keed mroa mral mrul mrur) (F0 : ex4 Z h0 pa1) (F1 : fd7 Z h0 pa1 (.ref pa2)) (F2 : ex2 Z h0 pa2) (F3 : fd3 Z h0 pa2 (.ref pa3)) (F4 : fd2 Z h0 pa2 (.int 0)) (F5 : fd4 Z h0 pa2 (.int 3)) (F6 : av2 Z h0 pa3 pk1 3 [.ref pa4, .ref pa5, .ref pa6]) (F7 : ex1 Z h0 pa4) (F8 : fd1 Z h0 pa4 (.int 0)) (F9 : fd0 Z h0 pa4 (.ref pa7)) (F10 : ex1 Z h0 pa5) (F11 : fd1 Z h0 pa5 (.int 0)) (F12 : fd0 Z h0 pa5 (.ref pa8)) (F13 : ex1 Z h0 pa6) (F14 : fd1 Z h0 pa6 (.int 0)) (F15 : fd0 Z h0 pa6 (.ref pa9)) (F16 : av0 Z h0 pa7 pk2 1 [.int pi1]) (F17 : av0 Z h0 pa8 pk3 1 [.int pi2]) (F18 : av0 Z h0 pa9 pk4 1 [.int pi3]) (ne : NE pa2 pa4 ∧ NE pa2 pa5 ∧ NE pa2 pa6) : M36 l Z 8 5 37 140 #[.ref pa1] h0 n0 [] [] (Q101 Z pi1 pi2 pi3 h0) := by
  refine mi B36 ef9 (hEW G) fun s X0 hsf0 n0le => ?_
  have := F0.l
  have := F2.l
  have := F6.l
  have := F7.l
  have := F10.l
  have := F13.l
  have := F16.l
  have := F17.l
  have := F18.l
  refine oA 1 X0 d36_0 rfl rfl <| ifnonnullYesJ 10 X0 d36_1 (by decide) <| oA 11 X0 d36_10 rfl rfl <| mV 14 0 X0 F0 (rm_au195 G F1 F2 F3 F4 F5 F6 F7 F8 F9 F10 F11 F12 F13 F14 F15 F16 F17 F18 (by omega)) (u38 G) all0 d36_11 rfl rfl rfl lr (by decide) all0 ?_
  rintro _ _ _ _ X1 ⟨xa1_2, xa2_3, xk1_4, rfl, q5, q6, q7, q8, q9, q10, q11, _⟩ _ _ _
  refine sk [.ref xa1_2] rfl ?_
  exact oR X1 d36_14 rfl rfl rfl (by decide) (by decide) (fun _ CC => ⟨xa1_2, xa2_3, xk1_4, rfl, q5, q6, q7, (CC.safe (own_lt (by omega)) q8), q9, q10, (CC.safe (own_lt (by omega)) q11), by omega⟩)
def Q102 (Z : State) (h0 : Heap) (v : Option Value) (h : Heap) (vm : Vm) : Prop := v = some (.int 9)
theorem rm_au197 (G : GL l Z a0 zc dce kdce eed keed mroa mral mrul mrur) (F0 : ex1 Z h0 pa1) (F1 : fd1 Z h0 pa1 (.int 0)) (F2 : fd0 Z h0 pa1 (.ref pa2)) (F3 : av0 Z h0 pa2 pk1 9 ps_pa2) : M29 l Z 1 0 0 13 #[.ref pa1] h0 n0 [] [] (Q102 Z  h0) := by
  refine mi B29 ef9 (hEW G) fun s X0 hsf0 n0le => ?_
  have := F0.l
  have := F3.l
  refine oA 1 X0 d29_0 rfl rfl <| oF 4 X0 (w22 G) Via.refl F2 d29_1 rfl ?_
  intro _ X2
  refine oL 5 X2 F3 d29_4 rfl <| oA 6 X2 d29_5 rfl rfl <| mV 9 1 X2 F0 (rm_au25 G F1) (u25 G) all0 d29_6 rfl rfl rfl lr (by decide) all0 ?_
  rintro _ _ _ _ X3 rfl _ _ _
  refine sk [i0, .int 9] rfl <| o_ishr 10 (v := 9) X3 d29_9 rfl (by decide) ?_
  exact o_iret X3 d29_10 rfl (by decide) (by decide) (fun _ CC => rfl)
def Q103 (Z : State) (b1 : Addr) (b2 : ClassId) (b3 b4 b5 b6 : Int32) (h0 : Heap) (v : Option Value) (h : Heap) (vm : Vm) : Prop := v = none ∧ av0 Z h b1 b2 16 [.int b3, .int 32, .int 91, .int b4, .int 44, .int 32, .int b5, .int 44, .int 32, .int b6, .int 93, i0, i0, i0, i0, i0] ∧ ex0 Z h b1
theorem rm_au198 (G : GL l Z a0 zc dce kdce eed keed mroa mral mrul mrur) (F0 : ex1 Z h0 pa1) (F1 : fd1 Z h0 pa1 (.int 0)) (F2 : fd0 Z h0 pa1 (.ref pa3)) (F3 : av0 Z h0 pa2 pk1 16 [.int pi1, .int 32, i0, i0, i0, i0, i0, i0, i0, i0, i0, i0, i0, i0, i0, i0]) (F4 : ex0 Z h0 pa2) (F5 : av0 Z h0 pa3 pk2 9 [.int 91, .int pi2, .int 44, .int 32, .int pi3, .int 44, .int 32, .int pi4, .int 93]) (ne : NE pa1 pa2 ∧ NE pa2 pa3 ∧ n0 ≤ pa2) : M34 l Z 1 0 0 40 #[.ref pa1, .ref pa2, .int 2, i0] h0 n0 [pa2] [pa2] (Q103 Z pa2 pk1 pi1 pi2 pi3 pi4 h0) := by
  refine mi B34 ef16 (hEW G) fun s X0 hsf0 n0le => ?_
  have := F0.l
  have := F3.l
  have := F5.l
  have sf_pa2 := hsf0 pa2 (by simp)
  refine oA 1 X0 d34_0 rfl rfl <| mV 4 0 X0 F0 (rm_au25 G F1) (u25 G) all0 d34_1 rfl rfl rfl lr (by decide) all0 ?_
  rintro _ _ _ _ X1 rfl K1 _ C1
  refine sk [i0] rfl <| oI 5 X1 d34_4 rfl rfl <| oN 8 X1 d34_5 rfl (teq (by decide)).2 <| oA 9 X1 d34_8 rfl rfl ?_
  have f2 := F2.k0 K1
  refine oF 12 X1 (w22 G) Via.refl f2 d34_9 rfl ?_
  intro _ X4
  refine oc 13 (v := 0) X4 d34_12 rfl (by decide) <| oA 14 X4 d34_13 rfl rfl <| oI 15 X4 d34_14 rfl rfl <| oI 16 X4 d34_15 rfl rfl <| o_ishl 17 (v := 2) X4 d34_16 rfl (by decide) <| oA 18 X4 d34_17 rfl rfl <| oF 21 X4 (w22 G) Via.refl f2 d34_18 rfl ?_
  intro _ X6
  have f7 := F5.k0 K1
  refine oL 22 X6 f7 d34_21 rfl ?_
  have f8 := F3.k0 K1
  have f9 := C1.safe (own_lt (by omega)) sf_pa2
  refine o_cp 25 (us := [.int 91, .int pi2, .int 44, .int 32, .int pi3, .int 44, .int 32, .int pi4, .int 93]) (vr := [.int pi1, .int 32, .int 91, .int pi2, .int 44, .int 32, .int pi3, .int 44, .int 32, .int pi4, .int 93, i0, i0, i0, i0, i0]) (W := 0) X6 (w229 G) (w119 G) (w117 G) (w118 G) f7 f8 (Or.inl ⟨rfl, rfl⟩) (by decide) (by decide) (by decide) (by decide) (by decide) rfl (Nat.le_of_ble_eq_true rfl) rfl d34_22 rfl rfl (by decide) (Nat.le_of_eq rfl) (by decide) (by omega) (Or.inl (by simp)) f9 ?_
  intro _ _ X10 K10 _ V10
  have := K10.1
  refine og 43 X10 d34_25 (by decide) ?_
  have f11 := (F4.keep K1).keep K10
  exact oz X10 d34_43 rfl (by decide) (by decide) (fun _ CC => ⟨rfl, V10, f11⟩)
theorem rm_au199 (G : GL l Z a0 zc dce kdce eed keed mroa mral mrul mrur) (F0 : ex6 Z h0 pa1) (F1 : fd10 Z h0 pa1 (.int 0)) (F2 : fd9 Z h0 pa1 (.ref pa3)) (F3 : ex1 Z h0 pa2) (F4 : fd1 Z h0 pa2 (.int 0)) (F5 : fd0 Z h0 pa2 (.ref pa4)) (F6 : av0 Z h0 pa3 pk1 16 [.int pi1, .int 32, i0, i0, i0, i0, i0, i0, i0, i0, i0, i0, i0, i0, i0, i0]) (F7 : ex0 Z h0 pa3) (F8 : av0 Z h0 pa4 pk2 9 [.int 91, .int pi2, .int 44, .int 32, .int pi3, .int 44, .int 32, .int pi4, .int 93]) (ne : NE pa1 pa3 ∧ NE pa2 pa3 ∧ NE pa3 pa4 ∧ n0 ≤ pa3) : M32 l Z 2 0 0 55 #[.ref pa1, .int 2, .ref pa2] h0 n0 [pa3] [pa3] (Q103 Z pa3 pk1 pi1 pi2 pi3 pi4 h0) := by
  refine mi B32 ef15 (hEW G) fun s X0 hsf0 n0le => ?_
  have := F0.l
  have := F3.l
  have := F6.l
  have := F8.l
  have sf_pa3 := hsf0 pa3 (by simp)
  refine oA 1 X0 d32_0 rfl rfl <| oA 2 X0 d32_1 rfl rfl <| mV 5 0 X0 F0 (rm_au28 G F1 F3 F4) (u29 G) all0 d32_2 rfl rfl rfl lr (by decide) all0 ?_
  rintro _ _ _ _ X1 rfl K1 _ C1
  refine sk [] rfl <| oA 6 X1 d32_5 rfl rfl <| oA 7 X1 d32_6 rfl rfl ?_
  have f2 := F2.k0 K1
  refine oF 10 X1 (w182 G) Via.refl f2 d32_7 rfl ?_
  intro _ X4
  refine oI 11 X4 d32_10 rfl rfl <| oA 12 X4 d32_11 rfl rfl ?_
  have f5 := F1.k0 K1
  refine oF 15 X4 (w184 G) Via.refl f5 d32_12 rfl ?_
  intro _ X7
  have f8 := F3.keep K1
  have f9 := F4.k0 K1
  have f10 := F5.k0 K1
  have f11 := F6.k0 K1
  have f12 := F7.keep K1
  have f13 := F8.k0 K1
  have f14 := C1.safe (own_lt (by omega)) sf_pa3
  refine mV 18 0 X7 f8 (rm_au198 G f8 f9 f10 f11 f12 f13 (by omega)) (u30 G) (sS (by omega) f14 all0) d32_15 rfl rfl rfl lr (by decide) (aI (by omega) (by simp) all0) ?_
  rintro _ _ _ _ X15 ⟨rfl, q16, q17⟩ _ _ _
  refine sk [] rfl ?_
  exact oz X15 d32_18 rfl (by decide) (by decide) (fun _ CC => ⟨rfl, q16, q17⟩)
def Q104 (Z : State) (b1 b2 : Addr) (b3 : ClassId) (b4 b5 b6 b7 : Int32) (h0 : Heap) (v : Option Value) (h : Heap) (vm : Vm) : Prop := v = some (.ref b1) ∧ ex6 Z h b1 ∧ fd10 Z h b1 (.int 0) ∧ fd11 Z h b1 (.int 11) ∧ fd9 Z h b1 (.ref b2) ∧ av0 Z h b2 b3 16 [.int b4, .int 32, .int 91, .int b5, .int 44, .int 32, .int b6, .int 44, .int 32, .int b7, .int 93, i0, i0, i0, i0, i0] ∧ ex0 Z h b2
theorem rm_au200 (G : GL l Z a0 zc dce kdce eed keed mroa mral mrul mrur) (F0 : ex6 Z h0 pa1) (F1 : fd10 Z h0 pa1 (.int 0)) (F2 : fd11 Z h0 pa1 (.int 2)) (F3 : fd9 Z h0 pa1 (.ref pa3)) (F4 : ex1 Z h0 pa2) (F5 : fd1 Z h0 pa2 (.int 0)) (F6 : fd0 Z h0 pa2 (.ref pa4)) (F7 : av0 Z h0 pa3 pk1 16 [.int pi1, .int 32, i0, i0, i0, i0, i0, i0, i0, i0, i0, i0, i0, i0, i0, i0]) (F8 : ex0 Z h0 pa3) (F9 : av0 Z h0 pa4 pk2 9 [.int 91, .int pi2, .int 44, .int 32, .int pi3, .int 44, .int 32, .int pi4, .int 93]) (ne : NE pa1 pa2 ∧ NE pa1 pa3 ∧ NE pa1 pa4 ∧ NE pa2 pa3 ∧ NE pa3 pa4 ∧ n0 ≤ pa1 ∧ n0 ≤ pa3) : M28 l Z 3 0 0 69 #[.ref pa1, .ref pa2] h0 n0 [pa1, pa3] [pa3] (Q104 Z pa1 pa3 pk1 pi1 pi2 pi3 pi4 h0) := by
  refine mi B28 ef11 (hEW G) fun s X0 hsf0 n0le => ?_
  have := F0.l
  have := F4.l
  have := F7.l
  have := F9.l
  have sf_pa3 := hsf0 pa3 (by simp)
  refine oA 1 X0 d28_0 rfl rfl <| ifnonnullYesJ 9 X0 d28_1 (by decide) <| oA 10 X0 d28_9 rfl rfl <| mV 13 0 X0 F4 (rm_au197 G F4 F5 F6 F9) (u26 G) all0 d28_10 rfl rfl rfl lr (by decide) all0 ?_
  rintro _ _ _ _ X1 rfl K1 _ C1
  refine sk [.int 9] rfl <| oT 14 (l' := #[rr pa1, rr pa2, ii 9]) X1 d28_13 rfl rfl <| oA 15 X1 d28_14 rfl rfl <| oA 16 X1 d28_15 rfl rfl ?_
  have f2 := F2.k0 K1
  refine oF 19 X1 (w206 G) Via.refl f2 d28_16 rfl ?_
  intro _ X4
  refine oI 20 X4 d28_19 rfl rfl <| o_iadd 21 (v := 11) X4 d28_20 rfl (by decide) ?_
  have f5 := F1.k0 K1
  have f6 := F3.k0 K1
  have f7 := F7.k0 K1
  have f8 := F0.keep K1
  refine mV 24 0 X4 f8 (rm_au27 G f5 f6 f7 (by decide)) (u27 G) all0 d28_21 rfl rfl rfl lr (by decide) all0 ?_
  rintro _ _ _ _ X9 rfl K9 _ C9
  refine sk [] rfl <| oA 25 X9 d28_24 rfl rfl <| oA 26 X9 d28_25 rfl rfl ?_
  have f10 := f2.k0 K9
  refine oF 29 X9 (w206 G) Via.refl f10 d28_26 rfl ?_
  intro _ X12
  refine oA 30 X12 d28_29 rfl rfl ?_
  have f13 := f8.keep K9
  have f14 := f5.k0 K9
  have f15 := f6.k0 K9
  have f16 := (F4.keep K1).keep K9
  have f17 := (F5.k0 K1).k0 K9
  have f18 := (F6.k0 K1).k0 K9
  have f19 := f7.k0 K9
  have f20 := (F8.keep K1).keep K9
  have f21 := (F9.k0 K1).k0 K9
  have f22 := C9.safe (own_lt (by omega)) (C1.safe (own_lt (by omega)) sf_pa3)
  refine mV 33 0 X12 f13 (rm_au199 G f13 f14 f15 f16 f17 f18 f19 f20 f21 (by omega)) (u31 G) (sS (by omega) f22 all0) d28_30 rfl rfl rfl lr (by decide) (aI (by omega) (by simp) all0) ?_
  rintro _ _ _ _ X23 ⟨rfl, q24, q25⟩ K23 _ _
  refine sk [] rfl <| oA 34 X23 d28_33 rfl rfl <| oD 35 X23 d28_34 rfl rfl ?_
  have f26 := f10.k1 K23 (by omega)
  refine oF 38 X23 (w206 G) Via.refl f26 d28_35 rfl ?_
  intro _ X28
  refine oI 39 X28 d28_38 rfl rfl <| o_iadd 40 (v := 11) X28 d28_39 rfl (by decide) ?_
  have f29 := f13.keep K23
  refine oP 43 (v' := (.int 11)) X28 (w206 G) Via.refl f26 f29 (Or.inl (w207 G)) (w169 G) fd_2 rfl rfl d28_40 rfl (by omega) (Or.inl (by simp)) (sx X28 f29 nc5) ?_
  intro _ _ X30 W30 _
  have := W30.size
  have f31 := f26.same W30
  refine oA 44 X30 d28_43 rfl rfl ?_
  have f32 := f29.wr W30
  have f33 := (f14.k1 K23 (by omega)).other W30 (Or.inr (sn16 G))
  have f34 := (f15.k1 K23 (by omega)).other W30 (Or.inr (sn17 G))
  have f35 := q24.oth W30 (by omega)
  have f36 := q25.wr W30
  exact oR X30 d28_44 rfl rfl rfl (by decide) (by decide) (fun _ CC => ⟨rfl, f32, f33, f31, f34, f35, f36⟩)
theorem rm_au201 (G : GL l Z a0 zc dce kdce eed keed mroa mral mrul mrur) (F0 : ex6 Z h0 pa1) (F1 : fd10 Z h0 pa1 (.int 0)) (F2 : fd11 Z h0 pa1 (.int 2)) (F3 : fd9 Z h0 pa1 (.ref pa3)) (F4 : ex1 Z h0 pa2) (F5 : fd1 Z h0 pa2 (.int 0)) (F6 : fd0 Z h0 pa2 (.ref pa4)) (F7 : av0 Z h0 pa3 pk1 16 [.int pi1, .int 32, i0, i0, i0, i0, i0, i0, i0, i0, i0, i0, i0, i0, i0, i0]) (F8 : ex0 Z h0 pa3) (F9 : av0 Z h0 pa4 pk2 9 [.int 91, .int pi2, .int 44, .int 32, .int pi3, .int 44, .int 32, .int pi4, .int 93]) (ne : NE pa1 pa2 ∧ NE pa1 pa3 ∧ NE pa1 pa4 ∧ NE pa2 pa3 ∧ NE pa3 pa4 ∧ n0 ≤ pa1 ∧ n0 ≤ pa3) : M27 l Z 4 0 0 83 #[.ref pa1, .ref pa2] h0 n0 [pa1, pa3] [pa3] (Q104 Z pa1 pa3 pk1 pi1 pi2 pi3 pi4 h0) := by
  refine mi B27 ef4 (hEW G) fun s X0 hsf0 n0le => ?_
  have := F0.l
  have := F4.l
  have := F7.l
  have := F9.l
  have sf_pa3 := hsf0 pa3 (by simp)
  refine oA 1 X0 d27_0 rfl rfl <| oA 2 X0 d27_1 rfl rfl <| mU 5 0 X0 F0 (rm_au200 G F0 F1 F2 F3 F4 F5 F6 F7 F8 F9 (by omega)) (u32 G) (sS (by omega) sf_pa3 all0) d27_2 rfl rfl rfl lr (by decide) (aI (by omega) (by simp) (aI (by omega) (by simp) all0)) ?_
  rintro _ _ _ _ X1 ⟨rfl, q2, q3, q4, q5, q6, q7⟩ _ _ _
  refine sk [.ref pa1] rfl <| o_pop 6 X1 d27_5 rfl rfl <| oA 7 X1 d27_6 rfl rfl ?_
  exact oR X1 d27_7 rfl rfl rfl (by decide) (by decide) (fun _ CC => ⟨rfl, q2, q3, q4, q5, q6, q7⟩)
theorem rm_au202 (G : GL l Z a0 zc dce kdce eed keed mroa mral mrul mrur) (F0 : ex6 Z h0 pa1) (F1 : fd10 Z h0 pa1 (.int 0)) (F2 : fd11 Z h0 pa1 (.int 2)) (F3 : fd9 Z h0 pa1 (.ref pa3)) (F4 : ex4 Z h0 pa2) (F5 : fd7 Z h0 pa2 (.ref pa4)) (F6 : av0 Z h0 pa3 pk1 16 [.int pi1, .int 32, i0, i0, i0, i0, i0, i0, i0, i0, i0, i0, i0, i0, i0, i0]) (F7 : ex0 Z h0 pa3) (F8 : ex2 Z h0 pa4) (F9 : fd3 Z h0 pa4 (.ref pa5)) (F10 : fd2 Z h0 pa4 (.int 0)) (F11 : fd4 Z h0 pa4 (.int 3)) (F12 : av2 Z h0 pa5 pk2 3 [.ref pa6, .ref pa7, .ref pa8]) (F13 : ex1 Z h0 pa6) (F14 : fd1 Z h0 pa6 (.int 0)) (F15 : fd0 Z h0 pa6 (.ref pa9)) (F16 : ex1 Z h0 pa7) (F17 : fd1 Z h0 pa7 (.int 0)) (F18 : fd0 Z h0 pa7 (.ref pa10)) (F19 : ex1 Z h0 pa8) (F20 : fd1 Z h0 pa8 (.int 0)) (F21 : fd0 Z h0 pa8 (.ref pa11)) (F22 : av0 Z h0 pa9 pk3 1 [.int pi2]) (F23 : av0 Z h0 pa10 pk4 1 [.int pi3]) (F24 : av0 Z h0 pa11 pk5 1 [.int pi4]) (ne : NE pa1 pa2 ∧ NE pa1 pa3 ∧ NE pa1 pa4 ∧ NE pa1 pa5 ∧ NE pa1 pa6 ∧ NE pa1 pa7 ∧ NE pa1 pa8 ∧ NE pa1 pa9 ∧ NE pa1 pa10 ∧ NE pa1 pa11 ∧ NE pa2 pa3 ∧ NE pa3 pa4 ∧ NE pa3 pa5 ∧ NE pa3 pa6 ∧ NE pa3 pa7 ∧ NE pa3 pa8 ∧ NE pa3 pa9 ∧ NE pa3 pa10 ∧ NE pa3 pa11 ∧ NE pa4 pa6 ∧ NE pa4 pa7 ∧ NE pa4 pa8 ∧ n0 ≤ pa1 ∧ n0 ≤ pa3) : M35 l Z 9 5 37 153 #[.ref pa1, .ref pa2] h0 n0 [pa1, pa3] [pa3] (Q104 Z pa1 pa3 pk1 pi1 pi2 pi3 pi4 h0) := by
  refine mi B35 ef4 (hEW G) fun s X0 hsf0 n0le => ?_
  have := F0.l
  have := F4.l
  have := F6.l
  have := F8.l
  have := F12.l
  have := F13.l
  have := F16.l
  have := F19.l
  have := F22.l
  have := F23.l
  have := F24.l
  have sf_pa3 := hsf0 pa3 (by simp)
  refine oA 1 X0 d35_0 rfl rfl <| oA 2 X0 d35_1 rfl rfl <| mS 5 1 X0 (rm_au196 G F4 F5 F8 F9 F10 F11 F12 F13 F14 F15 F16 F17 F18 F19 F20 F21 F22 F23 F24 (by omega)) (u39 G) all0 d35_2 rfl rfl rfl lr (by decide) all0 ?_
  rintro _ _ _ _ X1 ⟨xa1_2, _, _, rfl, q5, q6, q7, _, q9, _, _, _⟩ K1 _ C1
  refine sk [.ref xa1_2, .ref pa1] rfl ?_
  have f13 := F0.keep K1
  have f14 := F1.k0 K1
  have f15 := F2.k0 K1
  have f16 := F3.k0 K1
  have f17 := F6.k0 K1
  have f18 := F7.keep K1
  have f19 := C1.safe (own_lt (by omega)) sf_pa3
  refine mV 8 0 X1 f13 (rm_au201 G f13 f14 f15 f16 q5 q6 q7 f17 f18 q9 (by omega)) (u40 G) (sS (by omega) f19 all0) d35_5 rfl rfl rfl lr (by decide) (aI (by omega) (by simp) (aI (by omega) (by simp) all0)) ?_
  rintro _ _ _ _ X20 ⟨rfl, q21, q22, q23, q24, q25, q26⟩ _ _ _
  refine sk [.ref pa1] rfl ?_
  exact oR X20 d35_8 rfl rfl rfl (by decide) (by decide) (fun _ CC => ⟨rfl, q21, q22, q23, q24, q25, q26⟩)
def Q105 (Z : State) (b1 b2 b3 b4 : Int32) (h0 : Heap) (v : Option Value) (h : Heap) (vm : Vm) : Prop := ∃ (xa1 : Addr) (xk1 : ClassId), v = some (.ref xa1) ∧ av0 Z h xa1 xk1 11 [.int b1, .int 32, .int 91, .int b2, .int 44, .int 32, .int b3, .int 44, .int 32, .int b4, .int 93] ∧ ex0 Z h xa1 ∧ Safe Z EL0 vm h xa1 ∧ h0.size ≤ xa1 ∧ h.size > xa1
theorem rm_au203 (G : GL l Z a0 zc dce kdce eed keed mroa mral mrul mrur) (F0 : av0 Z h0 pa1 pk1 16 [.int pi1, .int 32, .int 91, .int pi2, .int 44, .int 32, .int pi3, .int 44, .int 32, .int pi4, .int 93, i0, i0, i0, i0, i0]) : M50 l Z 1 1 11 40 #[.ref pa1, i0, .int 11] h0 n0 [] [] (Q105 Z pi1 pi2 pi3 pi4 h0) := by
  refine mi B50 ef20 (hEW G) fun s X0 hsf0 n0le => ?_
  have := F0.l
  refine oI 1 X0 d50_0 rfl rfl <| oI 2 X0 d50_1 rfl rfl <| mS 5 0 X0 (rm_au54 G (by decide)) (u46 G) all0 d50_2 rfl rfl rfl lr (by decide) all0 ?_
  rintro _ _ _ _ X1 rfl K1 _ _
  refine sk [] rfl <| oI 6 X1 d50_5 rfl rfl <| oI 7 X1 d50_6 rfl rfl <| o_isub 8 (v := 11) X1 d50_7 rfl (by decide) <| oT 9 (l' := #[rr pa1, ii 0, ii 11, ii 11, uu]) X1 d50_8 rfl rfl <| oI 10 X1 d50_9 rfl rfl <| nP (aty := .byte) 12 11 X1 (w14 G) d50_10 rfl (by decide) had_byte ?_
  intro _ h2 b2 k2 X2 _ _ E2 V2 A2 _ S2
  have V3 : av0 Z h2 b2 k2 11 [i0, i0, i0, i0, i0, i0, i0, i0, i0, i0, i0] := V2.pad (pad_rep [] (.int (0 : Int32)) 11)
  refine oU 14 (l' := #[rr pa1, ii 0, ii 11, ii 11, rr b2]) X2 d50_12 rfl rfl rfl <| oA 15 X2 d50_14 rfl rfl <| oI 16 X2 d50_15 rfl rfl <| oa 18 X2 d50_16 rfl rfl <| oc 19 (v := 0) X2 d50_18 rfl (by decide) <| oA 20 X2 d50_19 rfl rfl ?_
  have f4 := (F0.k0 K1).ext E2
  refine oL 21 X2 f4 d50_20 rfl <| oI 22 X2 d50_21 rfl rfl <| o_isub 23 (v := 16) X2 d50_22 rfl (by decide) <| oI 24 X2 d50_23 rfl rfl <| mS 27 4 X2 (rm_au55 G (by decide)) (u13 G) all0 d50_24 rfl rfl rfl lr (by decide) all0 ?_
  rintro _ _ _ _ X5 rfl K5 _ C5
  refine sk [.int 11, i0, .ref b2, i0, .ref pa1] rfl ?_
  have f6 := f4.k0 K5
  have f7 := V3.k0 K5
  have f8 := C5.safe (own_lt (by omega)) S2
  refine o_cp 30 (us := [.int pi1, .int 32, .int 91, .int pi2, .int 44, .int 32, .int pi3, .int 44, .int 32, .int pi4, .int 93]) (vr := [.int pi1, .int 32, .int 91, .int pi2, .int 44, .int 32, .int pi3, .int 44, .int 32, .int pi4, .int 93]) (W := 0) X5 (w116 G) (w119 G) (w117 G) (w118 G) f6 f7 (Or.inl ⟨rfl, rfl⟩) (by decide) (by decide) (by decide) (by decide) (by decide) rfl (Nat.le_of_ble_eq_true rfl) rfl d50_27 rfl rfl (by decide) (Nat.le_of_eq rfl) (by decide) (by omega) (Or.inr (by omega)) f8 ?_
  intro _ _ X9 K9 C9 V9
  have := K9.1
  refine oa 32 X9 d50_30 rfl rfl ?_
  have f10 := (A2.keep K5).keep K9
  have f11 := C9.safe (own_lt (by omega)) f8
  exact oR X9 d50_32 rfl rfl rfl (by decide) (by decide) (fun _ CC => ⟨b2, k2, rfl, V9, f10, (CC.safe (own_lt (by omega)) f11), by omega⟩)
theorem rm_au204 (G : GL l Z a0 zc dce kdce eed keed mroa mral mrul mrur) (F0 : av0 Z h0 pa1 pk1 16 [.int pi1, .int 32, .int 91, .int pi2, .int 44, .int 32, .int pi3, .int 44, .int 32, .int pi4, .int 93, i0, i0, i0, i0, i0]) : M49 l Z 2 1 11 56 #[.ref pa1, i0, .int 11] h0 n0 [] [] (Q105 Z pi1 pi2 pi3 pi4 h0) := by
  refine mi B49 ef19 (hEW G) fun s X0 hsf0 n0le => ?_
  have := F0.l
  refine oI 1 X0 d49_0 rfl rfl <| on 4 X0 d49_1 rfl ((if0 _ _).trans (teq (by decide)).2) <| oI 5 X0 d49_4 rfl rfl <| oA 6 X0 d49_5 rfl rfl <| oL 7 X0 F0 d49_6 rfl <| oN 10 X0 d49_7 rfl (feq (by decide)).1 <| oA 11 X0 d49_10 rfl rfl <| oI 12 X0 d49_11 rfl rfl <| oI 13 X0 d49_12 rfl rfl <| mS 16 0 X0 (rm_au203 G F0) (u47 G) all0 d49_13 rfl rfl rfl lr (by decide) all0 ?_
  rintro _ _ _ _ X1 ⟨xa1_2, xk1_3, rfl, q4, q5, q6, _⟩ _ _ _
  refine sk [.ref xa1_2] rfl ?_
  exact oR X1 d49_16 rfl rfl rfl (by decide) (by decide) (fun _ CC => ⟨xa1_2, xk1_3, rfl, q4, q5, (CC.safe (own_lt (by omega)) q6), by omega⟩)
def Q106 (Z : State) (b1 : Addr) (b2 b3 b4 b5 : Int32) (h0 : Heap) (v : Option Value) (h : Heap) (vm : Vm) : Prop := ∃ (xa1 : Addr) (xk1 : ClassId), v = none ∧ ex1 Z h b1 ∧ fd1 Z h b1 (.int 0) ∧ fd0 Z h b1 (.ref xa1) ∧ av0 Z h xa1 xk1 11 [.int b2, .int 32, .int 91, .int b3, .int 44, .int 32, .int b4, .int 44, .int 32, .int b5, .int 93] ∧ ex0 Z h xa1 ∧ Safe Z EL0 vm h xa1 ∧ h0.size ≤ xa1 ∧ h.size > xa1
theorem rm_au205 (G : GL l Z a0 zc dce kdce eed keed mroa mral mrul mrur) (F0 : ex1 Z h0 pa1) (F1 : fd1 Z h0 pa1 (.int 0)) (F2 : fd0 Z h0 pa1 .null) (F3 : ex6 Z h0 pa2) (F4 : fd10 Z h0 pa2 (.int 0)) (F5 : fd11 Z h0 pa2 (.int 11)) (F6 : fd9 Z h0 pa2 (.ref pa3)) (F7 : av0 Z h0 pa3 pk1 16 [.int pi1, .int 32, .int 91, .int pi2, .int 44, .int 32, .int pi3, .int 44, .int 32, .int pi4, .int 93, i0, i0, i0, i0, i0]) (ne : NE pa1 pa2 ∧ NE pa1 pa3 ∧ n0 ≤ pa1) : M44 l Z 3 1 11 71 #[.ref pa1, .ref pa2, .null] h0 n0 [pa1] [pa1] (Q106 Z pa1 pi1 pi2 pi3 pi4 h0) := by
  refine mi B44 ef18 (hEW G) fun s X0 hsf0 n0le => ?_
  have := F0.l
  have := F3.l
  have := F7.l
  have sf_pa1 := hsf0 pa1 (by simp)
  refine oA 1 X0 d44_0 rfl rfl <| o_initO 4 (W := 0) X0 (w19 G) (w20 G) (w21 G) rfl (by decide) (Nat.le_of_eq rfl) (by decide) d44_1 rfl ?_
  intro _ X2
  refine oA 5 X2 d44_4 rfl rfl <| mV 8 0 X2 F3 (rm_au50 G F6) (u42 G) all0 d44_5 rfl rfl rfl lr (by decide) all0 ?_
  rintro _ _ _ _ X3 rfl K3 _ C3
  refine sk [.ref pa3] rfl <| oV 9 (l' := #[rr pa1, rr pa2, .val .null, rr pa3, uu]) X3 d44_8 rfl rfl rfl <| oA 10 X3 d44_9 rfl rfl ?_
  have f4 := F3.keep K3
  have f5 := F5.k0 K3
  refine mV 13 0 X3 f4 (rm_au52 G f4 f5) (u44 G) all0 d44_10 rfl rfl rfl lr (by decide) all0 ?_
  rintro _ _ _ _ X6 rfl K6 _ C6
  refine sk [.int 11] rfl <| oS 15 (l' := #[rr pa1, rr pa2, .val .null, rr pa3, ii 11]) X6 d44_13 rfl rfl <| oA 16 X6 d44_15 rfl rfl ?_
  have f7 := (F4.k0 K3).k0 K6
  have f8 := f4.keep K6
  refine mV 19 0 X6 f8 (rm_au53 G f7 (by decide)) (u45 G) all0 d44_16 rfl rfl rfl lr (by decide) all0 ?_
  rintro _ _ _ _ X9 rfl K9 _ C9
  refine sk [.int 1] rfl <| on 22 X9 d44_19 rfl ((if0 _ _).trans (feq (by decide)).1) <| oA 23 X9 d44_22 rfl rfl <| oc 24 (v := 0) X9 d44_23 rfl (by decide) ?_
  have f10 := ((F1.k0 K3).k0 K6).k0 K9
  have f11 := ((F0.keep K3).keep K6).keep K9
  have f13 := C9.safe (own_lt (by omega)) (C6.safe (own_lt (by omega)) (C3.safe (own_lt (by omega)) sf_pa1))
  refine oP 27 (v' := (.int 0)) X9 (w24 G) Via.refl f10 f11 (Or.inr ⟨(w25 G), rfl, rfl⟩) (w10 G) fd_1 rfl rfl d44_24 rfl (by omega) (Or.inl (by simp)) f13 ?_
  intro _ _ X12 W12 C12
  have := W12.size
  have f14 := f10.same W12
  refine oA 28 X12 d44_27 rfl rfl <| oA 29 X12 d44_28 rfl rfl <| oc 30 (v := 0) X12 d44_29 rfl (by decide) <| oi 32 X12 d44_30 rfl rfl ?_
  have f15 := (((F7.k0 K3).k0 K6).k0 K9).oth W12 (by omega)
  refine mS 35 1 X12 (rm_au204 G f15) (u48 G) all0 d44_32 rfl rfl rfl lr (by decide) all0 ?_
  rintro _ _ _ _ X16 ⟨xa1_17, xk1_18, rfl, q19, q20, q21, _⟩ K16 _ C16
  refine sk [.ref xa1_17, .ref pa1] rfl ?_
  have f23 := ((((F2.k0 K3).k0 K6).k0 K9).other W12 (Or.inr (sn1 G))).k0 K16
  have f24 := (f11.wr W12).keep K16
  have f26 := C16.safe (own_lt (by omega)) (C12.safe (own_lt (by omega)) f13)
  refine oP 38 (v' := (.ref xa1_17)) X16 (w22 G) Via.refl f23 f24 (Or.inr ⟨(w23 G), rfl, rfl⟩) (w10 G) fd_0 rfl rfl d44_35 rfl (by omega) (Or.inl (by simp)) f26 ?_
  intro _ _ X25 W25 C25
  have := W25.size
  have f27 := f23.same W25
  refine og 97 X25 d44_38 (by decide) ?_
  have f28 := f24.wr W25
  have f29 := (f14.k0 K16).other W25 (Or.inr (sn0 G))
  have f30 := q19.oth W25 (by omega)
  have f31 := q20.wr W25
  have f32 := C25.safe (own_lt (by omega)) q21
  exact oz X25 d44_97 rfl (by decide) (by decide) (fun _ CC => ⟨xa1_17, xk1_18, rfl, f28, f29, f27, f30, f31, (CC.safe (own_lt (by omega)) f32), by omega⟩)
theorem rm_au206 (G : GL l Z a0 zc dce kdce eed keed mroa mral mrul mrur) (F0 : ex1 Z h0 pa1) (F1 : fd1 Z h0 pa1 (.int 0)) (F2 : fd0 Z h0 pa1 .null) (F3 : ex6 Z h0 pa2) (F4 : fd10 Z h0 pa2 (.int 0)) (F5 : fd11 Z h0 pa2 (.int 11)) (F6 : fd9 Z h0 pa2 (.ref pa3)) (F7 : av0 Z h0 pa3 pk1 16 [.int pi1, .int 32, .int 91, .int pi2, .int 44, .int 32, .int pi3, .int 44, .int 32, .int pi4, .int 93, i0, i0, i0, i0, i0]) (ne : NE pa1 pa2 ∧ NE pa1 pa3 ∧ n0 ≤ pa1) : M43 l Z 4 1 11 87 #[.ref pa1, .ref pa2] h0 n0 [pa1] [pa1] (Q106 Z pa1 pi1 pi2 pi3 pi4 h0) := by
  refine mi B43 ef4 (hEW G) fun s X0 hsf0 n0le => ?_
  have := F0.l
  have := F3.l
  have := F7.l
  have sf_pa1 := hsf0 pa1 (by simp)
  refine oA 1 X0 d43_0 rfl rfl <| oA 2 X0 d43_1 rfl rfl <| o_aconstNull 3 X0 d43_2 rfl <| mP 6 0 X0 (rm_au205 G F0 F1 F2 F3 F4 F5 F6 F7 (by omega)) (u49 G) (sS (by omega) sf_pa1 all0) d43_3 rfl rfl rfl lr (by decide) (aI (by omega) (by simp) all0) ?_
  rintro _ _ _ _ X1 ⟨xa1_2, xk1_3, rfl, q4, q5, q6, q7, q8, q9, _⟩ _ _ _
  refine sk [] rfl ?_
  exact oz X1 d43_6 rfl (by decide) (by decide) (fun _ CC => ⟨xa1_2, xk1_3, rfl, q4, q5, q6, q7, q8, (CC.safe (own_lt (by omega)) q9), by omega⟩)
def Q107 (Z : State) (b1 b2 b3 b4 : Int32) (h0 : Heap) (v : Option Value) (h : Heap) (vm : Vm) : Prop := ∃ (xa1 : Addr) (xa2 : Addr) (xk1 : ClassId), v = some (.ref xa1) ∧ ex1 Z h xa1 ∧ fd1 Z h xa1 (.int 0) ∧ fd0 Z h xa1 (.ref xa2) ∧ Safe Z EL0 vm h xa1 ∧ av0 Z h xa2 xk1 11 [.int b1, .int 32, .int 91, .int b2, .int 44, .int 32, .int b3, .int 44, .int 32, .int b4, .int 93] ∧ ex0 Z h xa2 ∧ Safe Z EL0 vm h xa2 ∧ h0.size ≤ xa1 ∧ h.size > xa1 ∧ h0.size ≤ xa2 ∧ h.size > xa2 ∧ NE xa1 xa2
theorem rm_au207 (G : GL l Z a0 zc dce kdce eed keed mroa mral mrul mrur) (F0 : ex6 Z h0 pa1) (F1 : fd10 Z h0 pa1 (.int 0)) (F2 : fd11 Z h0 pa1 (.int 11)) (F3 : fd9 Z h0 pa1 (.ref pa2)) (F4 : av0 Z h0 pa2 pk1 16 [.int pi1, .int 32, .int 91, .int pi2, .int 44, .int 32, .int pi3, .int 44, .int 32, .int pi4, .int 93, i0, i0, i0, i0, i0]) : M42 l Z 5 2 15 101 #[.ref pa1] h0 n0 [] [] (Q107 Z pi1 pi2 pi3 pi4 h0) := by
  refine mi B42 ef9 (hEW G) fun s X0 hsf0 n0le => ?_
  have l1 := F0.l
  have := F4.l
  refine o_new 3 X0 (w294 G) (w10 G) (w2 G) d42_0 rfl (by decide) (by decide) ?_
  intro _ h1 b1 X1 _ l1 E1 A1 D1 _ _ S1
  have f2 : fd0 Z h1 b1 .null := D1 (Or.inr (w23 G)) fd_0
  have f3 : fd1 Z h1 b1 (.int 0) := D1 (Or.inr (w25 G)) fd_1
  refine oD 4 X1 d42_3 rfl rfl <| oA 5 X1 d42_4 rfl rfl ?_
  have f4 := F0.ext E1
  have f5 := F1.ext E1
  have f6 := F2.ext E1
  have f7 := F3.ext E1
  have f8 := F4.ext E1
  refine mP 8 1 X1 (rm_au206 G A1 f3 f2 f4 f5 f6 f7 f8 (by omega)) (u50 G) (sS (by omega) S1 all0) d42_5 rfl rfl rfl lr (by decide) (aR (by omega) all0) ?_
  rintro _ _ _ _ X9 ⟨xa1_10, xk1_11, rfl, q12, q13, q14, q15, q16, q17, _⟩ _ _ C9
  refine sk [.ref b1] rfl ?_
  have f19 := C9.safe (own_lt (by omega)) S1
  exact oR X9 d42_8 rfl rfl rfl (by decide) (by decide) (fun _ CC => ⟨b1, xa1_10, xk1_11, rfl, q12, q13, q14, (CC.safe (own_lt (by omega)) f19), q15, q16, (CC.safe (own_lt (by omega)) q17), by omega⟩)
theorem rm_au208 (G : GL l Z a0 zc dce kdce eed keed mroa mral mrul mrur) (F0 : ex5 Z h0 pa1) (F1 : fd6 Z h0 pa1 (.ref pa2)) (F2 : fd5 Z h0 pa1 (.ref pa3)) (F3 : ex4 Z h0 pa2) (F4 : fd7 Z h0 pa2 (.ref pa4)) (F5 : ex1 Z h0 pa3) (F6 : fd1 Z h0 pa3 (.int 0)) (F7 : fd0 Z h0 pa3 (.ref pa5)) (F8 : ex2 Z h0 pa4) (F9 : fd3 Z h0 pa4 (.ref pa6)) (F10 : fd2 Z h0 pa4 (.int 0)) (F11 : fd4 Z h0 pa4 (.int 3)) (F12 : av0 Z h0 pa5 pk1 1 [.int pi1]) (F13 : ex0 Z h0 pa5) (F14 : av2 Z h0 pa6 pk2 3 [.ref pa7, .ref pa8, .ref pa9]) (F15 : ex3 Z h0 pa6) (F16 : ex1 Z h0 pa7) (F17 : fd1 Z h0 pa7 (.int 0)) (F18 : fd0 Z h0 pa7 (.ref pa10)) (F19 : ex1 Z h0 pa8) (F20 : fd1 Z h0 pa8 (.int 0)) (F21 : fd0 Z h0 pa8 (.ref pa11)) (F22 : ex1 Z h0 pa9) (F23 : fd1 Z h0 pa9 (.int 0)) (F24 : fd0 Z h0 pa9 (.ref pa12)) (F25 : av0 Z h0 pa10 pk3 1 [.int pi2]) (F26 : ex0 Z h0 pa10) (F27 : av0 Z h0 pa11 pk4 1 [.int pi3]) (F28 : ex0 Z h0 pa11) (F29 : av0 Z h0 pa12 pk5 1 [.int pi4]) (F30 : ex0 Z h0 pa12) (ne : NE pa4 pa7 ∧ NE pa4 pa8 ∧ NE pa4 pa9) : M24 l Z 10 11 80 166 #[.ref pa1] h0 n0 [] [] (Q107 Z pi1 pi2 pi3 pi4 h0) := by
  have hw := G.1
  refine mi B24 ef9 (hEW G) fun s X0 hsf0 n0le => ?_
  have l1 := F0.l
  have := F3.l
  have := F5.l
  have := F8.l
  have := F12.l
  have := F14.l
  have := F16.l
  have := F19.l
  have := F22.l
  have := F25.l
  have := F27.l
  have := F29.l
  refine o_new 3 X0 (w168 G) (w169 G) (w170 G) d24_0 rfl (by decide) (by decide) ?_
  intro _ h1 b1 X1 _ l1 E1 A1 D1 _ _ _
  have f2 : fd9 Z h1 b1 .null := D1 (Or.inl (w183 G)) fd_0
  have f3 : fd10 Z h1 b1 (.int 0) := D1 (Or.inl (w185 G)) fd_1
  have f4 : fd11 Z h1 b1 (.int 0) := D1 (Or.inl (w207 G)) fd_2
  refine oD 4 X1 d24_3 rfl rfl <| mP 7 1 X1 (rm_au24 G A1 f3 f4 f2 (by omega)) (u24 G) all0 d24_4 rfl rfl rfl lr (by decide) (aR (by omega) all0) ?_
  rintro _ _ _ _ X5 ⟨xa1_6, _, rfl, q8, q9, q10, q11, q12, q13, q14, _⟩ K5 _ _
  refine sk [.ref b1] rfl <| oA 8 X5 d24_7 rfl rfl ?_
  have f16 := (F2.ext E1).k1 K5 (by omega)
  refine oF 11 X5 (w79 G) Via.refl f16 d24_8 rfl ?_
  intro _ X18
  have f19 := (F5.ext E1).keep K5
  have f20 := (F6.ext E1).k1 K5 (by omega)
  have f21 := (F7.ext E1).k1 K5 (by omega)
  have f22 := (F12.ext E1).k1 K5 (by omega)
  refine mV 14 0 X18 q8 (rm_au32 G q8 q9 q10 q11 f19 f20 f21 q12 q13 f22 (by omega)) (u33 G) (sS (by omega) q14 all0) d24_11 rfl rfl rfl lr (by decide) (aR (by omega) (aR (by omega) all0)) ?_
  rintro _ _ _ _ X23 ⟨rfl, q24, q25, q26, q27, q28, q29⟩ K23 _ C23
  refine sk [.ref b1] rfl <| o_ldcC 16 (n := 4) (vs := own_bs ([32] : List Int32)) (z := (1 : Int32)) X23 (w230 G) (hws_str hw) (by decide) ⟨by decide, rfl⟩ (by decide) (by decide) d24_14 rfl (by decide) (by decide) (by decide) (by decide) ?_
  intro a30 b30 kb30 _ h30 _ X30 E30 C30 Es30 Cs30 Vs30 As30 SF30
  have lta30 : h30.size > a30 := Es30.lt
  have ltb30 : h30.size > b30 := As30.lt
  have := E30.1
  have Bs30 : av0 Z h30 b30 kb30 1 [.int 32] := As30
  have f32 := q24.ext E30
  have := own_nes (SF30 b1 (sx X30 f32 nc5))
  have f34 := (((F0.ext E1).keep K5).keep K23).ext E30
  have := own_nes (SF30 pa1 (sx X30 f34 nc2))
  have f36 := (((F3.ext E1).keep K5).keep K23).ext E30
  have := own_nes (SF30 pa2 (sx X30 f36 nc4))
  have f38 := (((F8.ext E1).keep K5).keep K23).ext E30
  have := own_nes (SF30 pa4 (sx X30 f38 nc1))
  have f40 := (((F15.ext E1).keep K5).keep K23).ext E30
  have := own_nes (SF30 pa6 (sx X30 f40 nc3))
  have f42 := C30.safe (own_lt (by omega)) (C23.safe (own_lt (by omega)) q14)
  have := own_nes (SF30 xa1_6 f42)
  have f43 := q25.ext E30
  have f44 := q26.ext E30
  have f45 := q27.ext E30
  have f46 := q28.ext E30
  have f47 := q29.ext E30
  have := own_neC f32 Es30 (by decide +kernel)
  have := own_neE f32 Bs30 (w169 G)
  have := own_neC Es30 f47 (by decide +kernel)
  have := own_neA f46 Bs30 (by decide)
  refine mV 19 0 X30 f32 (rm_au36 G f32 f43 f44 f45 Es30 Cs30 Vs30 f46 f47 Bs30 (by omega)) (u33 G) (sS (by omega) f42 all0) d24_16 rfl rfl rfl lr (by decide) (aR (by omega) (aR (by omega) all0)) ?_
  rintro _ _ _ _ X52 ⟨rfl, q53, q54, q55, q56, q57, q58⟩ K52 _ C52
  refine sk [.ref b1] rfl <| oA 20 X52 d24_19 rfl rfl ?_
  have f59 := ((((F1.ext E1).k1 K5 (by omega)).k2 K23 (by omega)).ext E30).k2 K52 (by omega)
  refine oF 23 X52 (w161 G) Via.refl f59 d24_20 rfl ?_
  intro _ X61
  have f62 := f36.keep K52
  have f63 := ((((F4.ext E1).k1 K5 (by omega)).k2 K23 (by omega)).ext E30).k2 K52 (by omega)
  have f64 := f38.keep K52
  have f65 := ((((F9.ext E1).k1 K5 (by omega)).k2 K23 (by omega)).ext E30).k2 K52 (by omega)
  have f66 := ((((F10.ext E1).k1 K5 (by omega)).k2 K23 (by omega)).ext E30).k2 K52 (by omega)
  have f67 := ((((F11.ext E1).k1 K5 (by omega)).k2 K23 (by omega)).ext E30).k2 K52 (by omega)
  have f68 := ((((F14.ext E1).k1 K5 (by omega)).k2 K23 (by omega)).ext E30).k2 K52 (by omega)
  have f69 := ((((F16.ext E1).keep K5).keep K23).ext E30).keep K52
  have f70 := ((((F17.ext E1).k1 K5 (by omega)).k2 K23 (by omega)).ext E30).k2 K52 (by omega)
  have f71 := ((((F18.ext E1).k1 K5 (by omega)).k2 K23 (by omega)).ext E30).k2 K52 (by omega)
  have f72 := ((((F19.ext E1).keep K5).keep K23).ext E30).keep K52
  have f73 := ((((F20.ext E1).k1 K5 (by omega)).k2 K23 (by omega)).ext E30).k2 K52 (by omega)
  have f74 := ((((F21.ext E1).k1 K5 (by omega)).k2 K23 (by omega)).ext E30).k2 K52 (by omega)
  have f75 := ((((F22.ext E1).keep K5).keep K23).ext E30).keep K52
  have f76 := ((((F23.ext E1).k1 K5 (by omega)).k2 K23 (by omega)).ext E30).k2 K52 (by omega)
  have f77 := ((((F24.ext E1).k1 K5 (by omega)).k2 K23 (by omega)).ext E30).k2 K52 (by omega)
  have f78 := ((((F25.ext E1).k1 K5 (by omega)).k2 K23 (by omega)).ext E30).k2 K52 (by omega)
  have f79 := ((((F27.ext E1).k1 K5 (by omega)).k2 K23 (by omega)).ext E30).k2 K52 (by omega)
  have f80 := ((((F29.ext E1).k1 K5 (by omega)).k2 K23 (by omega)).ext E30).k2 K52 (by omega)
  have f81 := C52.safe (own_lt (by omega)) f42
  refine mV 26 0 X61 q53 (rm_au202 G q53 q54 q55 q56 f62 f63 q57 q58 f64 f65 f66 f67 f68 f69 f70 f71 f72 f73 f74 f75 f76 f77 f78 f79 f80 (by omega)) (u41 G) (sS (by omega) f81 all0) d24_23 rfl rfl rfl lr (by decide) (aR (by omega) (aR (by omega) all0)) ?_
  rintro _ _ _ _ X82 ⟨rfl, q83, q84, q85, q86, q87, _⟩ _ _ _
  refine sk [.ref b1] rfl <| mV 29 0 X82 q83 (rm_au207 G q83 q84 q85 q86 q87) (u51 G) all0 d24_26 rfl rfl rfl lr (by decide) all0 ?_
  rintro _ _ _ _ X89 ⟨xa1_90, xa2_91, xk1_92, rfl, q93, q94, q95, q96, q97, q98, q99, _⟩ _ _ _
  refine sk [.ref xa1_90] rfl ?_
  exact oR X89 d24_29 rfl rfl rfl (by decide) (by decide) (fun _ CC => ⟨xa1_90, xa2_91, xk1_92, rfl, q93, q94, q95, (CC.safe (own_lt (by omega)) q96), q97, q98, (CC.safe (own_lt (by omega)) q99), by omega⟩)
theorem rm_au209 (G : GL l Z a0 zc dce kdce eed keed mroa mral mrul mrur) (F0 : av0 Z h0 pa1 pk1 11 [.int pi1, .int 32, .int 91, .int pi2, .int 44, .int 32, .int pi3, .int 44, .int 32, .int pi4, .int 93]) (F1 : av0 Z h0 pa2 pk2 11 [.int pi1, .int 32, .int 91, .int pi2, .int 44, .int 32, .int pi3, .int 44, .int 32, .int pi4, .int 93]) : M53 l Z 0 0 0 0 #[.ref pa1, .ref pa2] h0 n0 [] [] (Q0 Z  h0) := by
  refine mi B53 ef11 (hEW G) fun s X0 hsf0 n0le => ?_
  have := F0.l
  have := F1.l
  refine oA 1 X0 d53_0 rfl rfl <| oL 2 X0 F0 d53_1 rfl <| oA 3 X0 d53_2 rfl rfl <| oL 4 X0 F1 d53_3 rfl <| oN 7 X0 d53_4 rfl (teq (by decide)).2 <| oc 8 (v := 0) X0 d53_7 rfl (by decide) <| oT 9 (l' := #[rr pa1, rr pa2, ii 0]) X0 d53_8 rfl rfl <| oI 10 X0 d53_9 rfl rfl <| oA 11 X0 d53_10 rfl rfl <| oL 12 X0 F0 d53_11 rfl <| oN 15 X0 d53_12 rfl (tlt (by decide)).2.1 <| oA 16 X0 d53_15 rfl rfl ?_
  refine oI 17 X0 d53_16 rfl rfl <| oB 18 (v := (.int pi1)) X0 F0 ⟨by decide, by decide⟩ rfl d53_17 rfl <| oA 19 X0 d53_18 rfl rfl <| oI 20 X0 d53_19 rfl rfl <| oB 21 (v := (.int pi1)) X0 F1 ⟨by decide, by decide⟩ rfl d53_20 rfl <| oY 26 X0 d53_21 (by decide) (teq rfl).1 <| oJ 29 1 #[rr pa1, rr pa2, ii 1] X0 d53_26 rfl rfl (by decide) rfl <| og 9 X0 d53_29 (by decide) <| oI 10 X0 d53_9 rfl rfl <| oA 11 X0 d53_10 rfl rfl <| oL 12 X0 F0 d53_11 rfl <| oN 15 X0 d53_12 rfl (tlt (by decide)).2.1 ?_
  refine oA 16 X0 d53_15 rfl rfl <| oI 17 X0 d53_16 rfl rfl <| oB 18 (v := (.int 32)) X0 F0 ⟨by decide, by decide⟩ rfl d53_17 rfl <| oA 19 X0 d53_18 rfl rfl <| oI 20 X0 d53_19 rfl rfl <| oB 21 (v := (.int 32)) X0 F1 ⟨by decide, by decide⟩ rfl d53_20 rfl <| oY 26 X0 d53_21 (by decide) (teq (by decide)).1 <| oJ 29 2 #[rr pa1, rr pa2, ii 2] X0 d53_26 rfl rfl (by decide) rfl <| og 9 X0 d53_29 (by decide) <| oI 10 X0 d53_9 rfl rfl <| oA 11 X0 d53_10 rfl rfl <| oL 12 X0 F0 d53_11 rfl ?_
  refine oN 15 X0 d53_12 rfl (tlt (by decide)).2.1 <| oA 16 X0 d53_15 rfl rfl <| oI 17 X0 d53_16 rfl rfl <| oB 18 (v := (.int 91)) X0 F0 ⟨by decide, by decide⟩ rfl d53_17 rfl <| oA 19 X0 d53_18 rfl rfl <| oI 20 X0 d53_19 rfl rfl <| oB 21 (v := (.int 91)) X0 F1 ⟨by decide, by decide⟩ rfl d53_20 rfl <| oY 26 X0 d53_21 (by decide) (teq (by decide)).1 <| oJ 29 3 #[rr pa1, rr pa2, ii 3] X0 d53_26 rfl rfl (by decide) rfl <| og 9 X0 d53_29 (by decide) <| oI 10 X0 d53_9 rfl rfl <| oA 11 X0 d53_10 rfl rfl ?_
  refine oL 12 X0 F0 d53_11 rfl <| oN 15 X0 d53_12 rfl (tlt (by decide)).2.1 <| oA 16 X0 d53_15 rfl rfl <| oI 17 X0 d53_16 rfl rfl <| oB 18 (v := (.int pi2)) X0 F0 ⟨by decide, by decide⟩ rfl d53_17 rfl <| oA 19 X0 d53_18 rfl rfl <| oI 20 X0 d53_19 rfl rfl <| oB 21 (v := (.int pi2)) X0 F1 ⟨by decide, by decide⟩ rfl d53_20 rfl <| oY 26 X0 d53_21 (by decide) (teq rfl).1 <| oJ 29 4 #[rr pa1, rr pa2, ii 4] X0 d53_26 rfl rfl (by decide) rfl <| og 9 X0 d53_29 (by decide) <| oI 10 X0 d53_9 rfl rfl ?_
  refine oA 11 X0 d53_10 rfl rfl <| oL 12 X0 F0 d53_11 rfl <| oN 15 X0 d53_12 rfl (tlt (by decide)).2.1 <| oA 16 X0 d53_15 rfl rfl <| oI 17 X0 d53_16 rfl rfl <| oB 18 (v := (.int 44)) X0 F0 ⟨by decide, by decide⟩ rfl d53_17 rfl <| oA 19 X0 d53_18 rfl rfl <| oI 20 X0 d53_19 rfl rfl <| oB 21 (v := (.int 44)) X0 F1 ⟨by decide, by decide⟩ rfl d53_20 rfl <| oY 26 X0 d53_21 (by decide) (teq (by decide)).1 <| oJ 29 5 #[rr pa1, rr pa2, ii 5] X0 d53_26 rfl rfl (by decide) rfl <| og 9 X0 d53_29 (by decide) ?_
  refine oI 10 X0 d53_9 rfl rfl <| oA 11 X0 d53_10 rfl rfl <| oL 12 X0 F0 d53_11 rfl <| oN 15 X0 d53_12 rfl (tlt (by decide)).2.1 <| oA 16 X0 d53_15 rfl rfl <| oI 17 X0 d53_16 rfl rfl <| oB 18 (v := (.int 32)) X0 F0 ⟨by decide, by decide⟩ rfl d53_17 rfl <| oA 19 X0 d53_18 rfl rfl <| oI 20 X0 d53_19 rfl rfl <| oB 21 (v := (.int 32)) X0 F1 ⟨by decide, by decide⟩ rfl d53_20 rfl <| oY 26 X0 d53_21 (by decide) (teq (by decide)).1 <| oJ 29 6 #[rr pa1, rr pa2, ii 6] X0 d53_26 rfl rfl (by decide) rfl ?_
  refine og 9 X0 d53_29 (by decide) <| oI 10 X0 d53_9 rfl rfl <| oA 11 X0 d53_10 rfl rfl <| oL 12 X0 F0 d53_11 rfl <| oN 15 X0 d53_12 rfl (tlt (by decide)).2.1 <| oA 16 X0 d53_15 rfl rfl <| oI 17 X0 d53_16 rfl rfl <| oB 18 (v := (.int pi3)) X0 F0 ⟨by decide, by decide⟩ rfl d53_17 rfl <| oA 19 X0 d53_18 rfl rfl <| oI 20 X0 d53_19 rfl rfl <| oB 21 (v := (.int pi3)) X0 F1 ⟨by decide, by decide⟩ rfl d53_20 rfl <| oY 26 X0 d53_21 (by decide) (teq rfl).1 ?_
  refine oJ 29 7 #[rr pa1, rr pa2, ii 7] X0 d53_26 rfl rfl (by decide) rfl <| og 9 X0 d53_29 (by decide) <| oI 10 X0 d53_9 rfl rfl <| oA 11 X0 d53_10 rfl rfl <| oL 12 X0 F0 d53_11 rfl <| oN 15 X0 d53_12 rfl (tlt (by decide)).2.1 <| oA 16 X0 d53_15 rfl rfl <| oI 17 X0 d53_16 rfl rfl <| oB 18 (v := (.int 44)) X0 F0 ⟨by decide, by decide⟩ rfl d53_17 rfl <| oA 19 X0 d53_18 rfl rfl <| oI 20 X0 d53_19 rfl rfl <| oB 21 (v := (.int 44)) X0 F1 ⟨by decide, by decide⟩ rfl d53_20 rfl ?_
  refine oY 26 X0 d53_21 (by decide) (teq (by decide)).1 <| oJ 29 8 #[rr pa1, rr pa2, ii 8] X0 d53_26 rfl rfl (by decide) rfl <| og 9 X0 d53_29 (by decide) <| oI 10 X0 d53_9 rfl rfl <| oA 11 X0 d53_10 rfl rfl <| oL 12 X0 F0 d53_11 rfl <| oN 15 X0 d53_12 rfl (tlt (by decide)).2.1 <| oA 16 X0 d53_15 rfl rfl <| oI 17 X0 d53_16 rfl rfl <| oB 18 (v := (.int 32)) X0 F0 ⟨by decide, by decide⟩ rfl d53_17 rfl <| oA 19 X0 d53_18 rfl rfl <| oI 20 X0 d53_19 rfl rfl ?_
  refine oB 21 (v := (.int 32)) X0 F1 ⟨by decide, by decide⟩ rfl d53_20 rfl <| oY 26 X0 d53_21 (by decide) (teq (by decide)).1 <| oJ 29 9 #[rr pa1, rr pa2, ii 9] X0 d53_26 rfl rfl (by decide) rfl <| og 9 X0 d53_29 (by decide) <| oI 10 X0 d53_9 rfl rfl <| oA 11 X0 d53_10 rfl rfl <| oL 12 X0 F0 d53_11 rfl <| oN 15 X0 d53_12 rfl (tlt (by decide)).2.1 <| oA 16 X0 d53_15 rfl rfl <| oI 17 X0 d53_16 rfl rfl <| oB 18 (v := (.int pi4)) X0 F0 ⟨by decide, by decide⟩ rfl d53_17 rfl <| oA 19 X0 d53_18 rfl rfl ?_
  refine oI 20 X0 d53_19 rfl rfl <| oB 21 (v := (.int pi4)) X0 F1 ⟨by decide, by decide⟩ rfl d53_20 rfl <| oY 26 X0 d53_21 (by decide) (teq rfl).1 <| oJ 29 10 #[rr pa1, rr pa2, ii 10] X0 d53_26 rfl rfl (by decide) rfl <| og 9 X0 d53_29 (by decide) <| oI 10 X0 d53_9 rfl rfl <| oA 11 X0 d53_10 rfl rfl <| oL 12 X0 F0 d53_11 rfl <| oN 15 X0 d53_12 rfl (tlt (by decide)).2.1 <| oA 16 X0 d53_15 rfl rfl <| oI 17 X0 d53_16 rfl rfl <| oB 18 (v := (.int 93)) X0 F0 ⟨by decide, by decide⟩ rfl d53_17 rfl ?_
  refine oA 19 X0 d53_18 rfl rfl <| oI 20 X0 d53_19 rfl rfl <| oB 21 (v := (.int 93)) X0 F1 ⟨by decide, by decide⟩ rfl d53_20 rfl <| oY 26 X0 d53_21 (by decide) (teq (by decide)).1 <| oJ 29 11 #[rr pa1, rr pa2, ii 11] X0 d53_26 rfl rfl (by decide) rfl <| og 9 X0 d53_29 (by decide) <| oI 10 X0 d53_9 rfl rfl <| oA 11 X0 d53_10 rfl rfl <| oL 12 X0 F0 d53_11 rfl <| oY 32 X0 d53_12 (by decide) (flt (by decide)).2.1 <| oc 33 (v := 1) X0 d53_32 rfl (by decide) ?_
  exact o_nret (y := (1 : Int32)) (t := .boolean) X0 d53_33 rfl (by decide) (by simp) (by decide) (by decide) (fun _ CC => rfl)
theorem rm_au210 (G : GL l Z a0 zc dce kdce eed keed mroa mral mrul mrur) (F0 : fd1 Z h0 pa1 (.int pi100)) (F1 : fd0 Z h0 pa1 (.ref pa3)) (F2 : ex1 Z h0 pa2) (F3 : fd1 Z h0 pa2 (.int pi101)) (F4 : fd0 Z h0 pa2 (.ref pa4)) (F5 : av0 Z h0 pa3 pk1 11 [.int pi1, .int 32, .int 91, .int pi2, .int 44, .int 32, .int pi3, .int 44, .int 32, .int pi4, .int 93]) (F6 : av0 Z h0 pa4 pk2 11 [.int pi1, .int 32, .int 91, .int pi2, .int 44, .int 32, .int pi3, .int 44, .int 32, .int pi4, .int 93]) (pc_0 : pi100 = pi101) (ne : NE pa1 pa2) : M52 l Z 1 0 0 14 #[.ref pa1, .ref pa2] h0 n0 [] [] (Q0 Z  h0) := by
  refine mi B52 ef11 (hEW G) fun s X0 hsf0 n0le => ?_
  have := F0.l
  have := F2.l
  have := F5.l
  have := F6.l
  refine oA 1 X0 d52_0 rfl rfl <| oA 2 X0 d52_1 rfl rfl <| o_acmp 7 (same := false) X0 d52_2 rfl rfl (decide_eq_false (fun q => absurd (Value.ref.inj q) (own_ne (by omega)))) (by decide) (by decide) <| oA 8 X0 d52_7 rfl rfl <| o_instY 11 X0 (w9 G) (Ins.self F2) d52_8 rfl ?_
  intro _ X2
  refine on 14 X2 d52_11 rfl ((if0 _ _).trans (feq (by decide)).1) <| oA 15 X2 d52_14 rfl rfl <| o_castY 18 X2 (w9 G) (Ins.self F2) d52_15 rfl ?_
  intro _ X4
  refine oV 19 (l' := #[rr pa1, rr pa2, rr pa2]) X4 d52_18 rfl rfl rfl <| oG 22 X4 (w4 G) Via.refl ((sg10 G).ext X4.old.2) d52_19 rfl ?_
  intro _ X6
  refine on 25 X6 d52_22 rfl ((if0 _ _).trans (feq (hzc G)).1) <| oA 26 X6 d52_25 rfl rfl <| oF 29 X6 (w24 G) Via.refl F0 d52_26 rfl ?_
  intro _ X8
  refine oA 30 X8 d52_29 rfl rfl <| oF 33 X8 (w24 G) Via.refl F3 d52_30 rfl ?_
  intro _ X10
  refine oN 36 X10 d52_33 rfl (teq pc_0).2 <| oA 37 X10 d52_36 rfl rfl <| oF 40 X10 (w22 G) Via.refl F1 d52_37 rfl ?_
  intro _ X12
  refine oA 41 X12 d52_40 rfl rfl <| oF 44 X12 (w22 G) Via.refl F4 d52_41 rfl ?_
  intro _ X14
  refine mS 47 0 X14 (rm_au209 G F5 F6) (u53 G) all0 d52_44 rfl rfl rfl lr (by decide) all0 ?_
  rintro _ _ _ _ X15 rfl _ _ _
  refine sk [.int 1] rfl <| on 50 X15 d52_47 rfl ((if0 _ _).trans (feq (by decide)).1) <| oc 51 (v := 1) X15 d52_50 rfl (by decide) <| og 55 X15 d52_51 (by decide) ?_
  exact o_nret (y := (1 : Int32)) (t := .boolean) X15 d52_55 rfl (by decide) (by simp) (by decide) (by decide) (fun _ CC => rfl)
theorem rm_law (G : GL l Z a0 zc dce kdce eed keed mroa mral mrul mrur) (wl : List Jvm.Cond) (p1 p2 p3 p4 p5 : Int32) {h0 : Heap} {n0 : Nat}  :
    Old Z n0 h0 → Met l x code maxLocals ret wl room_1 Z #[.int p1, .int p2, .int p3, .int p4, .int p5] h0 n0 [] EL0 false [] (Q0 Z  h0) := by
  refine mi B0 ef0 (hEW G) fun s X0 hsf0 n0le => ?_
  refine oi 2 X0 at_0 rfl rfl <| oc 3 (v := 3) X0 at_2 rfl (by decide) ?_
  rcases own_and3 p5 with hk1 | hk1 | hk1 | hk1
  · refine o_iand 4 (v := 0) X0 at_3 rfl hk1 <| oS 6 (l' := #[ii p1, ii p2, ii p3, ii p4, ii p5, ii 0, uu, uu, uu, uu, uu, uu, uu, uu, uu, uu, uu, uu]) X0 at_4 rfl rfl <| oI 7 X0 at_6 rfl rfl <| o_sipush 10 (v := 255) X0 at_7 rfl (by decide) <| o_iand 11 (v := (p1 &&& (255 : Int32))) X0 at_10 rfl rfl ?_
    obtain ⟨c2, ce3⟩ : ∃ z : Int32, (p1 &&& (255 : Int32)).toUInt32.toUInt16.toUInt32.toInt32 = z := ⟨_, rfl⟩
    have cr4 := own_c255 _ _ ce3
    refine o_i2c 12 (v := c2) X0 at_11 rfl ce3 <| oS 14 (l' := #[ii p1, ii p2, ii p3, ii p4, ii p5, ii 0, ii c2, uu, uu, uu, uu, uu, uu, uu, uu, uu, uu, uu]) X0 at_12 rfl rfl <| oI 15 X0 at_14 rfl rfl <| o_sipush 18 (v := 255) X0 at_15 rfl (by decide) <| o_iand 19 (v := (p2 &&& (255 : Int32))) X0 at_18 rfl rfl ?_
    obtain ⟨c5, ce6⟩ : ∃ z : Int32, (p2 &&& (255 : Int32)).toUInt32.toUInt16.toUInt32.toInt32 = z := ⟨_, rfl⟩
    have cr7 := own_c255 _ _ ce6
    refine o_i2c 20 (v := c5) X0 at_19 rfl ce6 <| oS 22 (l' := #[ii p1, ii p2, ii p3, ii p4, ii p5, ii 0, ii c2, ii c5, uu, uu, uu, uu, uu, uu, uu, uu, uu, uu]) X0 at_20 rfl rfl <| oI 23 X0 at_22 rfl rfl <| o_sipush 26 (v := 255) X0 at_23 rfl (by decide) <| o_iand 27 (v := (p3 &&& (255 : Int32))) X0 at_26 rfl rfl ?_
    obtain ⟨c8, ce9⟩ : ∃ z : Int32, (p3 &&& (255 : Int32)).toUInt32.toUInt16.toUInt32.toInt32 = z := ⟨_, rfl⟩
    have cr10 := own_c255 _ _ ce9
    refine o_i2c 28 (v := c8) X0 at_27 rfl ce9 <| oS 30 (l' := #[ii p1, ii p2, ii p3, ii p4, ii p5, ii 0, ii c2, ii c5, ii c8, uu, uu, uu, uu, uu, uu, uu, uu, uu]) X0 at_28 rfl rfl <| oI 31 X0 at_30 rfl rfl <| o_sipush 34 (v := 255) X0 at_31 rfl (by decide) <| o_iand 35 (v := (p4 &&& (255 : Int32))) X0 at_34 rfl rfl ?_
    obtain ⟨c11, ce12⟩ : ∃ z : Int32, (p4 &&& (255 : Int32)).toUInt32.toUInt16.toUInt32.toInt32 = z := ⟨_, rfl⟩
    have cr13 := own_c255 _ _ ce12
    refine o_i2c 36 (v := c11) X0 at_35 rfl ce12 <| oS 38 (l' := #[ii p1, ii p2, ii p3, ii p4, ii p5, ii 0, ii c2, ii c5, ii c8, ii c11, uu, uu, uu, uu, uu, uu, uu, uu]) X0 at_36 rfl rfl <| oi 40 X0 at_38 rfl rfl <| mS 43 0 X0 (rm_au3 G cr4) (u3 G) all0 at_40 rfl rfl rfl lr (by decide) all0 ?_
    rintro _ _ _ _ X14 ⟨xa1_15, _, _, rfl, q18, q19, q20, _, q22, q23, _, _⟩ _ _ _
    refine sk [.ref xa1_15] rfl <| oU 45 (l' := #[ii p1, ii p2, ii p3, ii p4, ii p5, ii 0, ii c2, ii c5, ii c8, ii c11, rr xa1_15, uu, uu, uu, uu, uu, uu, uu]) X14 at_43 rfl rfl rfl <| oi 47 X14 at_45 rfl rfl <| mS 50 0 X14 (rm_au3 G cr7) (u3 G) all0 at_47 rfl rfl rfl lr (by decide) all0 ?_
    rintro _ _ _ _ X26 ⟨xa1_27, _, _, rfl, _, _, _, _, _, _, _, _⟩ K26 _ _
    refine sk [.ref xa1_27] rfl <| oU 52 (l' := #[ii p1, ii p2, ii p3, ii p4, ii p5, ii 0, ii c2, ii c5, ii c8, ii c11, rr xa1_15, rr xa1_27, uu, uu, uu, uu, uu, uu]) X26 at_50 rfl rfl rfl <| oi 54 X26 at_52 rfl rfl <| mS 57 0 X26 (rm_au3 G cr10) (u3 G) all0 at_54 rfl rfl rfl lr (by decide) all0 ?_
    rintro _ _ _ _ X38 ⟨xa1_39, _, _, rfl, _, _, _, _, _, _, _, _⟩ K38 _ _
    refine sk [.ref xa1_39] rfl <| oU 59 (l' := #[ii p1, ii p2, ii p3, ii p4, ii p5, ii 0, ii c2, ii c5, ii c8, ii c11, rr xa1_15, rr xa1_27, rr xa1_39, uu, uu, uu, uu, uu]) X38 at_57 rfl rfl rfl <| oi 61 X38 at_59 rfl rfl <| mS 64 0 X38 (rm_au3 G cr13) (u3 G) all0 at_61 rfl rfl rfl lr (by decide) all0 ?_
    rintro _ _ _ _ X50 ⟨xa1_51, _, _, rfl, _, _, _, _, _, _, _, _⟩ K50 _ _
    refine sk [.ref xa1_51] rfl <| oU 66 (l' := #[ii p1, ii p2, ii p3, ii p4, ii p5, ii 0, ii c2, ii c5, ii c8, ii c11, rr xa1_15, rr xa1_27, rr xa1_39, rr xa1_51, uu, uu, uu, uu]) X50 at_64 rfl rfl rfl <| oi 68 X50 at_66 rfl rfl <| oi 70 X50 at_68 rfl rfl <| oi 72 X50 at_70 rfl rfl <| oi 74 X50 at_72 rfl rfl <| oi 76 X50 at_74 rfl rfl <| mS 79 0 X50 (rm_au9 G cr4 cr7 cr10 cr13 (by decide)) (u9 G) all0 at_76 rfl rfl rfl lr (by decide) all0 ?_
    rintro _ _ _ _ X62 ⟨xa1_63, _, _, rfl, q66, q67, q68, _, q70, _, _, _⟩ K62 _ _
    refine sk [.ref xa1_63] rfl <| oU 81 (l' := #[ii p1, ii p2, ii p3, ii p4, ii p5, ii 0, ii c2, ii c5, ii c8, ii c11, rr xa1_15, rr xa1_27, rr xa1_39, rr xa1_51, rr xa1_63, uu, uu, uu]) X62 at_79 rfl rfl rfl <| o_new 84 X62 (w48 G) (w49 G) (w50 G) at_81 rfl (by decide) (by decide) ?_
    intro _ h74 b74 X74 _ _ E74 A74 D74 _ _ _
    have f75 : fd2 Z h74 b74 (.int 0) := D74 (Or.inl (w68 G)) fd_2
    have f76 : fd3 Z h74 b74 .null := D74 (Or.inl (w71 G)) fd_3
    have f77 : fd4 Z h74 b74 (.int 0) := D74 (Or.inl (w95 G)) fd_2
    refine oD 85 X74 at_84 rfl rfl <| mP 88 1 X74 (rm_au12 G A74 f76 f75 f77 (by omega)) (u12 G) all0 at_85 rfl rfl rfl lr (by decide) (aR (by omega) all0) ?_
    rintro _ _ _ _ X78 ⟨rfl, q79, q80, _, q82⟩ K78 _ _
    refine sk [.ref b74] rfl <| oU 90 (l' := #[ii p1, ii p2, ii p3, ii p4, ii p5, ii 0, ii c2, ii c5, ii c8, ii c11, rr xa1_15, rr xa1_27, rr xa1_39, rr xa1_51, rr xa1_63, rr b74, uu, uu]) X78 at_88 rfl rfl rfl <| oi 92 X78 at_90 rfl rfl <| oc 93 (v := 1) X78 at_92 rfl (by decide) <| oY 104 X78 at_93 (by decide) (tlt (by decide)).1 <| oi 106 X78 at_104 rfl rfl <| oc 107 (v := 2) X78 at_106 rfl (by decide) <| oY 118 X78 at_107 (by decide) (tlt (by decide)).1 <| oi 120 X78 at_118 rfl rfl <| oc 121 (v := 3) X78 at_120 rfl (by decide) <| oY 132 X78 at_121 (by decide) (tlt (by decide)).1 <| o_new 135 X78 (w72 G) (w73 G) (w74 G) at_132 rfl (by decide) (by decide) ?_
    intro _ h83 b83 X83 _ _ E83 A83 D83 _ _ _
    have f84 : fd5 Z h83 b83 .null := D83 (Or.inr (w80 G)) fd_4
    have f85 : fd6 Z h83 b83 .null := D83 (Or.inr (w162 G)) fd_5
    refine oD 136 X83 at_135 rfl rfl <| oa 138 X83 at_136 rfl rfl <| oa 140 X83 at_138 rfl rfl ?_
    have f86 := q79.ext E83
    have f87 := q80.ext E83
    have f88 := q82.ext E83
    refine mP 143 1 X83 (rm_au22 G A83 f85 f84 f86 f87 f88 (by omega)) (u22 G) all0 at_140 rfl rfl rfl lr (by decide) (aR (by omega) all0) ?_
    rintro _ _ _ _ X89 ⟨_, _, rfl, q92, q93, q94, q95, q96, _, q98, _, q100, q101, _⟩ K89 _ _
    refine sk [.ref b83] rfl <| oU 145 (l' := #[ii p1, ii p2, ii p3, ii p4, ii p5, ii 0, ii c2, ii c5, ii c8, ii c11, rr xa1_15, rr xa1_27, rr xa1_39, rr xa1_51, rr xa1_63, rr b74, rr b83, uu]) X89 at_143 rfl rfl rfl <| oa 147 X89 at_145 rfl rfl ?_
    have f103 := (((((((q18.keep K26).keep K38).keep K50).keep K62).ext E74).keep K78).ext E83).keep K89
    have f104 := (((((((q19.k0 K26).k0 K38).k0 K50).k0 K62).ext E74).k1 K78 (by omega)).ext E83).k1 K89 (by omega)
    have f105 := (((((((q20.k0 K26).k0 K38).k0 K50).k0 K62).ext E74).k1 K78 (by omega)).ext E83).k1 K89 (by omega)
    have f106 := (((((((q22.k0 K26).k0 K38).k0 K50).k0 K62).ext E74).k1 K78 (by omega)).ext E83).k1 K89 (by omega)
    have f107 := (((((((q23.keep K26).keep K38).keep K50).keep K62).ext E74).keep K78).ext E83).keep K89
    refine mV 150 0 X89 q92 (rm_au61 G q92 q93 q94 q95 q96 f103 f104 f105 q98 q100 q101 f106 f107) (u52 G) all0 at_147 rfl rfl rfl lr (by decide) all0 ?_
    rintro _ _ _ _ X108 ⟨xa1_109, _, _, rfl, q112, q113, q114, _, q116, _, _, _⟩ K108 _ _
    refine sk [.ref xa1_109] rfl <| oU 152 (l' := #[ii p1, ii p2, ii p3, ii p4, ii p5, ii 0, ii c2, ii c5, ii c8, ii c11, rr xa1_15, rr xa1_27, rr xa1_39, rr xa1_51, rr xa1_63, rr b74, rr b83, rr xa1_109]) X108 at_150 rfl rfl rfl <| oa 154 X108 at_152 rfl rfl <| oa 156 X108 at_154 rfl rfl ?_
    have f120 := ((((q66.ext E74).keep K78).ext E83).keep K89).keep K108
    have f121 := ((((q67.ext E74).k1 K78 (by omega)).ext E83).k1 K89 (by omega)).k0 K108
    have f122 := ((((q68.ext E74).k1 K78 (by omega)).ext E83).k1 K89 (by omega)).k0 K108
    have f123 := ((((q70.ext E74).k1 K78 (by omega)).ext E83).k1 K89 (by omega)).k0 K108
    refine mV 159 0 X108 q112 (rm_au63 G q113 q114 f120 f121 f122 q116 f123 (by decide) (by decide) (by decide) (by decide) (by omega)) (u54 G) all0 at_156 rfl rfl rfl lr (by decide) all0 ?_
    rintro _ _ _ _ X124 rfl _ _ _
    refine sk [.int 1] rfl ?_
    exact o_nret (y := (1 : Int32)) (t := .boolean) X124 at_159 rfl (by decide) (by simp) (by decide) (by decide) (fun _ CC => rfl)
  · refine o_iand 4 (v := 1) X0 at_3 rfl hk1 <| oS 6 (l' := #[ii p1, ii p2, ii p3, ii p4, ii p5, ii 1, uu, uu, uu, uu, uu, uu, uu, uu, uu, uu, uu, uu]) X0 at_4 rfl rfl <| oI 7 X0 at_6 rfl rfl <| o_sipush 10 (v := 255) X0 at_7 rfl (by decide) <| o_iand 11 (v := (p1 &&& (255 : Int32))) X0 at_10 rfl rfl ?_
    obtain ⟨c125, ce126⟩ : ∃ z : Int32, (p1 &&& (255 : Int32)).toUInt32.toUInt16.toUInt32.toInt32 = z := ⟨_, rfl⟩
    have cr127 := own_c255 _ _ ce126
    refine o_i2c 12 (v := c125) X0 at_11 rfl ce126 <| oS 14 (l' := #[ii p1, ii p2, ii p3, ii p4, ii p5, ii 1, ii c125, uu, uu, uu, uu, uu, uu, uu, uu, uu, uu, uu]) X0 at_12 rfl rfl <| oI 15 X0 at_14 rfl rfl <| o_sipush 18 (v := 255) X0 at_15 rfl (by decide) <| o_iand 19 (v := (p2 &&& (255 : Int32))) X0 at_18 rfl rfl ?_
    obtain ⟨c128, ce129⟩ : ∃ z : Int32, (p2 &&& (255 : Int32)).toUInt32.toUInt16.toUInt32.toInt32 = z := ⟨_, rfl⟩
    have cr130 := own_c255 _ _ ce129
    refine o_i2c 20 (v := c128) X0 at_19 rfl ce129 <| oS 22 (l' := #[ii p1, ii p2, ii p3, ii p4, ii p5, ii 1, ii c125, ii c128, uu, uu, uu, uu, uu, uu, uu, uu, uu, uu]) X0 at_20 rfl rfl <| oI 23 X0 at_22 rfl rfl <| o_sipush 26 (v := 255) X0 at_23 rfl (by decide) <| o_iand 27 (v := (p3 &&& (255 : Int32))) X0 at_26 rfl rfl ?_
    obtain ⟨c131, ce132⟩ : ∃ z : Int32, (p3 &&& (255 : Int32)).toUInt32.toUInt16.toUInt32.toInt32 = z := ⟨_, rfl⟩
    have cr133 := own_c255 _ _ ce132
    refine o_i2c 28 (v := c131) X0 at_27 rfl ce132 <| oS 30 (l' := #[ii p1, ii p2, ii p3, ii p4, ii p5, ii 1, ii c125, ii c128, ii c131, uu, uu, uu, uu, uu, uu, uu, uu, uu]) X0 at_28 rfl rfl <| oI 31 X0 at_30 rfl rfl <| o_sipush 34 (v := 255) X0 at_31 rfl (by decide) <| o_iand 35 (v := (p4 &&& (255 : Int32))) X0 at_34 rfl rfl ?_
    obtain ⟨c134, ce135⟩ : ∃ z : Int32, (p4 &&& (255 : Int32)).toUInt32.toUInt16.toUInt32.toInt32 = z := ⟨_, rfl⟩
    have cr136 := own_c255 _ _ ce135
    refine o_i2c 36 (v := c134) X0 at_35 rfl ce135 <| oS 38 (l' := #[ii p1, ii p2, ii p3, ii p4, ii p5, ii 1, ii c125, ii c128, ii c131, ii c134, uu, uu, uu, uu, uu, uu, uu, uu]) X0 at_36 rfl rfl <| oi 40 X0 at_38 rfl rfl <| mS 43 0 X0 (rm_au3 G cr127) (u3 G) all0 at_40 rfl rfl rfl lr (by decide) all0 ?_
    rintro _ _ _ _ X137 ⟨xa1_138, _, _, rfl, q141, q142, q143, _, q145, q146, _, _⟩ _ _ _
    refine sk [.ref xa1_138] rfl <| oU 45 (l' := #[ii p1, ii p2, ii p3, ii p4, ii p5, ii 1, ii c125, ii c128, ii c131, ii c134, rr xa1_138, uu, uu, uu, uu, uu, uu, uu]) X137 at_43 rfl rfl rfl <| oi 47 X137 at_45 rfl rfl <| mS 50 0 X137 (rm_au3 G cr130) (u3 G) all0 at_47 rfl rfl rfl lr (by decide) all0 ?_
    rintro _ _ _ _ X149 ⟨xa1_150, _, _, rfl, q153, q154, q155, _, q157, q158, _, _⟩ K149 _ _
    refine sk [.ref xa1_150] rfl <| oU 52 (l' := #[ii p1, ii p2, ii p3, ii p4, ii p5, ii 1, ii c125, ii c128, ii c131, ii c134, rr xa1_138, rr xa1_150, uu, uu, uu, uu, uu, uu]) X149 at_50 rfl rfl rfl <| oi 54 X149 at_52 rfl rfl <| mS 57 0 X149 (rm_au3 G cr133) (u3 G) all0 at_54 rfl rfl rfl lr (by decide) all0 ?_
    rintro _ _ _ _ X161 ⟨xa1_162, _, _, rfl, _, _, _, _, _, _, _, _⟩ K161 _ _
    refine sk [.ref xa1_162] rfl <| oU 59 (l' := #[ii p1, ii p2, ii p3, ii p4, ii p5, ii 1, ii c125, ii c128, ii c131, ii c134, rr xa1_138, rr xa1_150, rr xa1_162, uu, uu, uu, uu, uu]) X161 at_57 rfl rfl rfl <| oi 61 X161 at_59 rfl rfl <| mS 64 0 X161 (rm_au3 G cr136) (u3 G) all0 at_61 rfl rfl rfl lr (by decide) all0 ?_
    rintro _ _ _ _ X173 ⟨xa1_174, _, _, rfl, _, _, _, _, _, _, _, _⟩ K173 _ _
    refine sk [.ref xa1_174] rfl <| oU 66 (l' := #[ii p1, ii p2, ii p3, ii p4, ii p5, ii 1, ii c125, ii c128, ii c131, ii c134, rr xa1_138, rr xa1_150, rr xa1_162, rr xa1_174, uu, uu, uu, uu]) X173 at_64 rfl rfl rfl <| oi 68 X173 at_66 rfl rfl <| oi 70 X173 at_68 rfl rfl <| oi 72 X173 at_70 rfl rfl <| oi 74 X173 at_72 rfl rfl <| oi 76 X173 at_74 rfl rfl <| mS 79 0 X173 (rm_au69 G cr127 cr130 cr133 cr136 (by decide) (by decide)) (u9 G) all0 at_76 rfl rfl rfl lr (by decide) all0 ?_
    rintro _ _ _ _ X185 ⟨xa1_186, _, _, rfl, q189, q190, q191, _, q193, _, _, _⟩ K185 _ _
    refine sk [.ref xa1_186] rfl <| oU 81 (l' := #[ii p1, ii p2, ii p3, ii p4, ii p5, ii 1, ii c125, ii c128, ii c131, ii c134, rr xa1_138, rr xa1_150, rr xa1_162, rr xa1_174, rr xa1_186, uu, uu, uu]) X185 at_79 rfl rfl rfl <| o_new 84 X185 (w48 G) (w49 G) (w50 G) at_81 rfl (by decide) (by decide) ?_
    intro _ h197 b197 X197 _ _ E197 A197 D197 _ _ _
    have f198 : fd2 Z h197 b197 (.int 0) := D197 (Or.inl (w68 G)) fd_2
    have f199 : fd3 Z h197 b197 .null := D197 (Or.inl (w71 G)) fd_3
    have f200 : fd4 Z h197 b197 (.int 0) := D197 (Or.inl (w95 G)) fd_2
    refine oD 85 X197 at_84 rfl rfl <| mP 88 1 X197 (rm_au12 G A197 f199 f198 f200 (by omega)) (u12 G) all0 at_85 rfl rfl rfl lr (by decide) (aR (by omega) all0) ?_
    rintro _ _ _ _ X201 ⟨rfl, q202, q203, q204, q205⟩ K201 _ _
    refine sk [.ref b197] rfl <| oU 90 (l' := #[ii p1, ii p2, ii p3, ii p4, ii p5, ii 1, ii c125, ii c128, ii c131, ii c134, rr xa1_138, rr xa1_150, rr xa1_162, rr xa1_174, rr xa1_186, rr b197, uu, uu]) X201 at_88 rfl rfl rfl <| oi 92 X201 at_90 rfl rfl <| oc 93 (v := 1) X201 at_92 rfl (by decide) <| oN 96 X201 at_93 rfl (flt (by decide)).1 <| oa 98 X201 at_96 rfl rfl <| oa 100 X201 at_98 rfl rfl ?_
    have f206 := ((((q153.keep K161).keep K173).keep K185).ext E197).keep K201
    refine mV 103 0 X201 q202 (rm_au74 G q202 q203 q204 q205 f206 (by omega)) (u59 G) all0 at_100 rfl rfl rfl lr (by decide) (aR (by omega) all0) ?_
    rintro _ _ _ _ X207 ⟨_, _, rfl, q210, q211, _, q213, q214, q215, _, _⟩ K207 _ _
    refine sk [.int 1] rfl <| o_pop 104 X207 at_103 rfl rfl <| oi 106 X207 at_104 rfl rfl <| oc 107 (v := 2) X207 at_106 rfl (by decide) <| oY 118 X207 at_107 (by decide) (tlt (by decide)).1 <| oi 120 X207 at_118 rfl rfl <| oc 121 (v := 3) X207 at_120 rfl (by decide) <| oY 132 X207 at_121 (by decide) (tlt (by decide)).1 <| o_new 135 X207 (w72 G) (w73 G) (w74 G) at_132 rfl (by decide) (by decide) ?_
    intro _ h218 b218 X218 _ _ E218 A218 D218 _ _ _
    have f219 : fd5 Z h218 b218 .null := D218 (Or.inr (w80 G)) fd_4
    have f220 : fd6 Z h218 b218 .null := D218 (Or.inr (w162 G)) fd_5
    refine oD 136 X218 at_135 rfl rfl <| oa 138 X218 at_136 rfl rfl <| oa 140 X218 at_138 rfl rfl ?_
    have f221 := q210.ext E218
    have f222 := q211.ext E218
    have f223 := q213.ext E218
    have f224 := q214.ext E218
    have f225 := q215.ext E218
    have f226 := (f206.keep K207).ext E218
    refine mP 143 1 X218 (rm_au79 G A218 f220 f219 f221 f222 f223 f224 f225 f226 (by omega)) (u22 G) all0 at_140 rfl rfl rfl lr (by decide) (aR (by omega) all0) ?_
    rintro _ _ _ _ X227 ⟨_, _, _, _, rfl, q232, q233, q234, q235, q236, _, q238, q239, q240, q241, q242, q243, _, _⟩ K227 _ _
    refine sk [.ref b218] rfl <| oU 145 (l' := #[ii p1, ii p2, ii p3, ii p4, ii p5, ii 1, ii c125, ii c128, ii c131, ii c134, rr xa1_138, rr xa1_150, rr xa1_162, rr xa1_174, rr xa1_186, rr b197, rr b218, uu]) X227 at_143 rfl rfl rfl <| oa 147 X227 at_145 rfl rfl ?_
    have f246 := ((((((((q141.keep K149).keep K161).keep K173).keep K185).ext E197).keep K201).keep K207).ext E218).keep K227
    have f247 := ((((((((q142.k0 K149).k0 K161).k0 K173).k0 K185).ext E197).k1 K201 (by omega)).k1 K207 (by omega)).ext E218).k1 K227 (by omega)
    have f248 := ((((((((q143.k0 K149).k0 K161).k0 K173).k0 K185).ext E197).k1 K201 (by omega)).k1 K207 (by omega)).ext E218).k1 K227 (by omega)
    have f249 := ((((((((q145.k0 K149).k0 K161).k0 K173).k0 K185).ext E197).k1 K201 (by omega)).k1 K207 (by omega)).ext E218).k1 K227 (by omega)
    have f250 := ((((((((q146.keep K149).keep K161).keep K173).keep K185).ext E197).keep K201).keep K207).ext E218).keep K227
    have f251 := f226.keep K227
    have f252 := (((((((q154.k0 K161).k0 K173).k0 K185).ext E197).k1 K201 (by omega)).k1 K207 (by omega)).ext E218).k1 K227 (by omega)
    have f253 := (((((((q155.k0 K161).k0 K173).k0 K185).ext E197).k1 K201 (by omega)).k1 K207 (by omega)).ext E218).k1 K227 (by omega)
    have f254 := (((((((q157.k0 K161).k0 K173).k0 K185).ext E197).k1 K201 (by omega)).k1 K207 (by omega)).ext E218).k1 K227 (by omega)
    have f255 := (((((((q158.keep K161).keep K173).keep K185).ext E197).keep K201).keep K207).ext E218).keep K227
    refine mV 150 0 X227 q232 (rm_au110 G q232 q233 q234 q235 q236 f246 f247 f248 q238 q239 q240 q241 f249 f250 q242 q243 f251 f252 f253 f254 f255 (by omega)) (u52 G) all0 at_147 rfl rfl rfl lr (by decide) all0 ?_
    rintro _ _ _ _ X256 ⟨xa1_257, _, _, rfl, q260, q261, q262, _, q264, _, _, _⟩ K256 _ _
    refine sk [.ref xa1_257] rfl <| oU 152 (l' := #[ii p1, ii p2, ii p3, ii p4, ii p5, ii 1, ii c125, ii c128, ii c131, ii c134, rr xa1_138, rr xa1_150, rr xa1_162, rr xa1_174, rr xa1_186, rr b197, rr b218, rr xa1_257]) X256 at_150 rfl rfl rfl <| oa 154 X256 at_152 rfl rfl <| oa 156 X256 at_154 rfl rfl ?_
    have f268 := (((((q189.ext E197).keep K201).keep K207).ext E218).keep K227).keep K256
    have f269 := (((((q190.ext E197).k1 K201 (by omega)).k1 K207 (by omega)).ext E218).k1 K227 (by omega)).k0 K256
    have f270 := (((((q191.ext E197).k1 K201 (by omega)).k1 K207 (by omega)).ext E218).k1 K227 (by omega)).k0 K256
    have f271 := (((((q193.ext E197).k1 K201 (by omega)).k1 K207 (by omega)).ext E218).k1 K227 (by omega)).k0 K256
    refine mV 159 0 X256 q260 (rm_au112 G q261 q262 f268 f269 f270 q264 f271 (by decide) (by decide) (by decide) (by decide) (by omega)) (u54 G) all0 at_156 rfl rfl rfl lr (by decide) all0 ?_
    rintro _ _ _ _ X272 rfl _ _ _
    refine sk [.int 1] rfl ?_
    exact o_nret (y := (1 : Int32)) (t := .boolean) X272 at_159 rfl (by decide) (by simp) (by decide) (by decide) (fun _ CC => rfl)
  · refine o_iand 4 (v := 2) X0 at_3 rfl hk1 <| oS 6 (l' := #[ii p1, ii p2, ii p3, ii p4, ii p5, ii 2, uu, uu, uu, uu, uu, uu, uu, uu, uu, uu, uu, uu]) X0 at_4 rfl rfl <| oI 7 X0 at_6 rfl rfl <| o_sipush 10 (v := 255) X0 at_7 rfl (by decide) <| o_iand 11 (v := (p1 &&& (255 : Int32))) X0 at_10 rfl rfl ?_
    obtain ⟨c273, ce274⟩ : ∃ z : Int32, (p1 &&& (255 : Int32)).toUInt32.toUInt16.toUInt32.toInt32 = z := ⟨_, rfl⟩
    have cr275 := own_c255 _ _ ce274
    refine o_i2c 12 (v := c273) X0 at_11 rfl ce274 <| oS 14 (l' := #[ii p1, ii p2, ii p3, ii p4, ii p5, ii 2, ii c273, uu, uu, uu, uu, uu, uu, uu, uu, uu, uu, uu]) X0 at_12 rfl rfl <| oI 15 X0 at_14 rfl rfl <| o_sipush 18 (v := 255) X0 at_15 rfl (by decide) <| o_iand 19 (v := (p2 &&& (255 : Int32))) X0 at_18 rfl rfl ?_
    obtain ⟨c276, ce277⟩ : ∃ z : Int32, (p2 &&& (255 : Int32)).toUInt32.toUInt16.toUInt32.toInt32 = z := ⟨_, rfl⟩
    have cr278 := own_c255 _ _ ce277
    refine o_i2c 20 (v := c276) X0 at_19 rfl ce277 <| oS 22 (l' := #[ii p1, ii p2, ii p3, ii p4, ii p5, ii 2, ii c273, ii c276, uu, uu, uu, uu, uu, uu, uu, uu, uu, uu]) X0 at_20 rfl rfl <| oI 23 X0 at_22 rfl rfl <| o_sipush 26 (v := 255) X0 at_23 rfl (by decide) <| o_iand 27 (v := (p3 &&& (255 : Int32))) X0 at_26 rfl rfl ?_
    obtain ⟨c279, ce280⟩ : ∃ z : Int32, (p3 &&& (255 : Int32)).toUInt32.toUInt16.toUInt32.toInt32 = z := ⟨_, rfl⟩
    have cr281 := own_c255 _ _ ce280
    refine o_i2c 28 (v := c279) X0 at_27 rfl ce280 <| oS 30 (l' := #[ii p1, ii p2, ii p3, ii p4, ii p5, ii 2, ii c273, ii c276, ii c279, uu, uu, uu, uu, uu, uu, uu, uu, uu]) X0 at_28 rfl rfl <| oI 31 X0 at_30 rfl rfl <| o_sipush 34 (v := 255) X0 at_31 rfl (by decide) <| o_iand 35 (v := (p4 &&& (255 : Int32))) X0 at_34 rfl rfl ?_
    obtain ⟨c282, ce283⟩ : ∃ z : Int32, (p4 &&& (255 : Int32)).toUInt32.toUInt16.toUInt32.toInt32 = z := ⟨_, rfl⟩
    have cr284 := own_c255 _ _ ce283
    refine o_i2c 36 (v := c282) X0 at_35 rfl ce283 <| oS 38 (l' := #[ii p1, ii p2, ii p3, ii p4, ii p5, ii 2, ii c273, ii c276, ii c279, ii c282, uu, uu, uu, uu, uu, uu, uu, uu]) X0 at_36 rfl rfl <| oi 40 X0 at_38 rfl rfl <| mS 43 0 X0 (rm_au3 G cr275) (u3 G) all0 at_40 rfl rfl rfl lr (by decide) all0 ?_
    rintro _ _ _ _ X285 ⟨xa1_286, _, _, rfl, q289, q290, q291, _, q293, q294, _, _⟩ _ _ _
    refine sk [.ref xa1_286] rfl <| oU 45 (l' := #[ii p1, ii p2, ii p3, ii p4, ii p5, ii 2, ii c273, ii c276, ii c279, ii c282, rr xa1_286, uu, uu, uu, uu, uu, uu, uu]) X285 at_43 rfl rfl rfl <| oi 47 X285 at_45 rfl rfl <| mS 50 0 X285 (rm_au3 G cr278) (u3 G) all0 at_47 rfl rfl rfl lr (by decide) all0 ?_
    rintro _ _ _ _ X297 ⟨xa1_298, _, _, rfl, q301, q302, q303, _, q305, q306, _, _⟩ K297 _ _
    refine sk [.ref xa1_298] rfl <| oU 52 (l' := #[ii p1, ii p2, ii p3, ii p4, ii p5, ii 2, ii c273, ii c276, ii c279, ii c282, rr xa1_286, rr xa1_298, uu, uu, uu, uu, uu, uu]) X297 at_50 rfl rfl rfl <| oi 54 X297 at_52 rfl rfl <| mS 57 0 X297 (rm_au3 G cr281) (u3 G) all0 at_54 rfl rfl rfl lr (by decide) all0 ?_
    rintro _ _ _ _ X309 ⟨xa1_310, _, _, rfl, q313, q314, q315, _, q317, q318, _, _⟩ K309 _ _
    refine sk [.ref xa1_310] rfl <| oU 59 (l' := #[ii p1, ii p2, ii p3, ii p4, ii p5, ii 2, ii c273, ii c276, ii c279, ii c282, rr xa1_286, rr xa1_298, rr xa1_310, uu, uu, uu, uu, uu]) X309 at_57 rfl rfl rfl <| oi 61 X309 at_59 rfl rfl <| mS 64 0 X309 (rm_au3 G cr284) (u3 G) all0 at_61 rfl rfl rfl lr (by decide) all0 ?_
    rintro _ _ _ _ X321 ⟨xa1_322, _, _, rfl, _, _, _, _, _, _, _, _⟩ K321 _ _
    refine sk [.ref xa1_322] rfl <| oU 66 (l' := #[ii p1, ii p2, ii p3, ii p4, ii p5, ii 2, ii c273, ii c276, ii c279, ii c282, rr xa1_286, rr xa1_298, rr xa1_310, rr xa1_322, uu, uu, uu, uu]) X321 at_64 rfl rfl rfl <| oi 68 X321 at_66 rfl rfl <| oi 70 X321 at_68 rfl rfl <| oi 72 X321 at_70 rfl rfl <| oi 74 X321 at_72 rfl rfl <| oi 76 X321 at_74 rfl rfl <| mS 79 0 X321 (rm_au118 G cr275 cr278 cr281 cr284 (by decide) (by decide) (by decide)) (u9 G) all0 at_76 rfl rfl rfl lr (by decide) all0 ?_
    rintro _ _ _ _ X333 ⟨xa1_334, _, _, rfl, q337, q338, q339, _, q341, _, _, _⟩ K333 _ _
    refine sk [.ref xa1_334] rfl <| oU 81 (l' := #[ii p1, ii p2, ii p3, ii p4, ii p5, ii 2, ii c273, ii c276, ii c279, ii c282, rr xa1_286, rr xa1_298, rr xa1_310, rr xa1_322, rr xa1_334, uu, uu, uu]) X333 at_79 rfl rfl rfl <| o_new 84 X333 (w48 G) (w49 G) (w50 G) at_81 rfl (by decide) (by decide) ?_
    intro _ h345 b345 X345 _ _ E345 A345 D345 _ _ _
    have f346 : fd2 Z h345 b345 (.int 0) := D345 (Or.inl (w68 G)) fd_2
    have f347 : fd3 Z h345 b345 .null := D345 (Or.inl (w71 G)) fd_3
    have f348 : fd4 Z h345 b345 (.int 0) := D345 (Or.inl (w95 G)) fd_2
    refine oD 85 X345 at_84 rfl rfl <| mP 88 1 X345 (rm_au12 G A345 f347 f346 f348 (by omega)) (u12 G) all0 at_85 rfl rfl rfl lr (by decide) (aR (by omega) all0) ?_
    rintro _ _ _ _ X349 ⟨rfl, q350, q351, q352, q353⟩ K349 _ _
    refine sk [.ref b345] rfl <| oU 90 (l' := #[ii p1, ii p2, ii p3, ii p4, ii p5, ii 2, ii c273, ii c276, ii c279, ii c282, rr xa1_286, rr xa1_298, rr xa1_310, rr xa1_322, rr xa1_334, rr b345, uu, uu]) X349 at_88 rfl rfl rfl <| oi 92 X349 at_90 rfl rfl <| oc 93 (v := 1) X349 at_92 rfl (by decide) <| oN 96 X349 at_93 rfl (flt (by decide)).1 <| oa 98 X349 at_96 rfl rfl <| oa 100 X349 at_98 rfl rfl ?_
    have f354 := ((((q301.keep K309).keep K321).keep K333).ext E345).keep K349
    refine mV 103 0 X349 q350 (rm_au74 G q350 q351 q352 q353 f354 (by omega)) (u59 G) all0 at_100 rfl rfl rfl lr (by decide) (aR (by omega) all0) ?_
    rintro _ _ _ _ X355 ⟨_, _, rfl, q358, q359, q360, q361, q362, q363, q364, _⟩ K355 _ _
    refine sk [.int 1] rfl <| o_pop 104 X355 at_103 rfl rfl <| oi 106 X355 at_104 rfl rfl <| oc 107 (v := 2) X355 at_106 rfl (by decide) <| oN 110 X355 at_107 rfl (flt (by decide)).1 <| oa 112 X355 at_110 rfl rfl <| oa 114 X355 at_112 rfl rfl ?_
    have f366 := ((((q313.keep K321).keep K333).ext E345).keep K349).keep K355
    refine mV 117 0 X355 q358 (rm_au120 G q358 q359 q360 q361 f366 q362 q363 q364 (by omega)) (u59 G) all0 at_114 rfl rfl rfl lr (by decide) (aR (by omega) (aR (by omega) all0)) ?_
    rintro _ _ _ _ X367 ⟨rfl, q368, q369, _, q371, q372, q373, _⟩ K367 _ _
    refine sk [.int 1] rfl <| o_pop 118 X367 at_117 rfl rfl <| oi 120 X367 at_118 rfl rfl <| oc 121 (v := 3) X367 at_120 rfl (by decide) <| oY 132 X367 at_121 (by decide) (tlt (by decide)).1 <| o_new 135 X367 (w72 G) (w73 G) (w74 G) at_132 rfl (by decide) (by decide) ?_
    intro _ h375 b375 X375 _ _ E375 A375 D375 _ _ _
    have f376 : fd5 Z h375 b375 .null := D375 (Or.inr (w80 G)) fd_4
    have f377 : fd6 Z h375 b375 .null := D375 (Or.inr (w162 G)) fd_5
    refine oD 136 X375 at_135 rfl rfl <| oa 138 X375 at_136 rfl rfl <| oa 140 X375 at_138 rfl rfl ?_
    have f378 := q368.ext E375
    have f379 := q369.ext E375
    have f380 := q371.ext E375
    have f381 := q372.ext E375
    have f382 := q373.ext E375
    have f383 := ((f354.keep K355).keep K367).ext E375
    have f384 := (f366.keep K367).ext E375
    refine mP 143 1 X375 (rm_au125 G A375 f377 f376 f378 f379 f380 f381 f382 f383 f384 (by omega)) (u22 G) all0 at_140 rfl rfl rfl lr (by decide) (aR (by omega) all0) ?_
    rintro _ _ _ _ X385 ⟨_, _, _, _, rfl, q390, q391, q392, q393, q394, _, q396, q397, q398, q399, q400, q401, _, _⟩ K385 _ _
    refine sk [.ref b375] rfl <| oU 145 (l' := #[ii p1, ii p2, ii p3, ii p4, ii p5, ii 2, ii c273, ii c276, ii c279, ii c282, rr xa1_286, rr xa1_298, rr xa1_310, rr xa1_322, rr xa1_334, rr b345, rr b375, uu]) X385 at_143 rfl rfl rfl <| oa 147 X385 at_145 rfl rfl ?_
    have f404 := (((((((((q289.keep K297).keep K309).keep K321).keep K333).ext E345).keep K349).keep K355).keep K367).ext E375).keep K385
    have f405 := (((((((((q290.k0 K297).k0 K309).k0 K321).k0 K333).ext E345).k1 K349 (by omega)).k1 K355 (by omega)).k2 K367 (by omega)).ext E375).k1 K385 (by omega)
    have f406 := (((((((((q291.k0 K297).k0 K309).k0 K321).k0 K333).ext E345).k1 K349 (by omega)).k1 K355 (by omega)).k2 K367 (by omega)).ext E375).k1 K385 (by omega)
    have f407 := (((((((((q293.k0 K297).k0 K309).k0 K321).k0 K333).ext E345).k1 K349 (by omega)).k1 K355 (by omega)).k2 K367 (by omega)).ext E375).k1 K385 (by omega)
    have f408 := (((((((((q294.keep K297).keep K309).keep K321).keep K333).ext E345).keep K349).keep K355).keep K367).ext E375).keep K385
    have f409 := f383.keep K385
    have f410 := ((((((((q302.k0 K309).k0 K321).k0 K333).ext E345).k1 K349 (by omega)).k1 K355 (by omega)).k2 K367 (by omega)).ext E375).k1 K385 (by omega)
    have f411 := ((((((((q303.k0 K309).k0 K321).k0 K333).ext E345).k1 K349 (by omega)).k1 K355 (by omega)).k2 K367 (by omega)).ext E375).k1 K385 (by omega)
    have f412 := f384.keep K385
    have f413 := (((((((q314.k0 K321).k0 K333).ext E345).k1 K349 (by omega)).k1 K355 (by omega)).k2 K367 (by omega)).ext E375).k1 K385 (by omega)
    have f414 := (((((((q315.k0 K321).k0 K333).ext E345).k1 K349 (by omega)).k1 K355 (by omega)).k2 K367 (by omega)).ext E375).k1 K385 (by omega)
    have f415 := ((((((((q305.k0 K309).k0 K321).k0 K333).ext E345).k1 K349 (by omega)).k1 K355 (by omega)).k2 K367 (by omega)).ext E375).k1 K385 (by omega)
    have f416 := ((((((((q306.keep K309).keep K321).keep K333).ext E345).keep K349).keep K355).keep K367).ext E375).keep K385
    have f417 := (((((((q317.k0 K321).k0 K333).ext E345).k1 K349 (by omega)).k1 K355 (by omega)).k2 K367 (by omega)).ext E375).k1 K385 (by omega)
    have f418 := (((((((q318.keep K321).keep K333).ext E345).keep K349).keep K355).keep K367).ext E375).keep K385
    refine mV 150 0 X385 q390 (rm_au159 G q390 q391 q392 q393 q394 f404 f405 f406 q396 q397 q398 q399 f407 f408 q400 q401 f409 f410 f411 f412 f413 f414 f415 f416 f417 f418 (by omega)) (u52 G) all0 at_147 rfl rfl rfl lr (by decide) all0 ?_
    rintro _ _ _ _ X419 ⟨xa1_420, _, _, rfl, q423, q424, q425, _, q427, _, _, _⟩ K419 _ _
    refine sk [.ref xa1_420] rfl <| oU 152 (l' := #[ii p1, ii p2, ii p3, ii p4, ii p5, ii 2, ii c273, ii c276, ii c279, ii c282, rr xa1_286, rr xa1_298, rr xa1_310, rr xa1_322, rr xa1_334, rr b345, rr b375, rr xa1_420]) X419 at_150 rfl rfl rfl <| oa 154 X419 at_152 rfl rfl <| oa 156 X419 at_154 rfl rfl ?_
    have f431 := ((((((q337.ext E345).keep K349).keep K355).keep K367).ext E375).keep K385).keep K419
    have f432 := ((((((q338.ext E345).k1 K349 (by omega)).k1 K355 (by omega)).k2 K367 (by omega)).ext E375).k1 K385 (by omega)).k0 K419
    have f433 := ((((((q339.ext E345).k1 K349 (by omega)).k1 K355 (by omega)).k2 K367 (by omega)).ext E375).k1 K385 (by omega)).k0 K419
    have f434 := ((((((q341.ext E345).k1 K349 (by omega)).k1 K355 (by omega)).k2 K367 (by omega)).ext E375).k1 K385 (by omega)).k0 K419
    refine mV 159 0 X419 q423 (rm_au161 G q424 q425 f431 f432 f433 q427 f434 (by decide) (by decide) (by decide) (by decide) (by decide) (by decide) (by omega)) (u54 G) all0 at_156 rfl rfl rfl lr (by decide) all0 ?_
    rintro _ _ _ _ X435 rfl _ _ _
    refine sk [.int 1] rfl ?_
    exact o_nret (y := (1 : Int32)) (t := .boolean) X435 at_159 rfl (by decide) (by simp) (by decide) (by decide) (fun _ CC => rfl)
  · refine o_iand 4 (v := 3) X0 at_3 rfl hk1 <| oS 6 (l' := #[ii p1, ii p2, ii p3, ii p4, ii p5, ii 3, uu, uu, uu, uu, uu, uu, uu, uu, uu, uu, uu, uu]) X0 at_4 rfl rfl <| oI 7 X0 at_6 rfl rfl <| o_sipush 10 (v := 255) X0 at_7 rfl (by decide) <| o_iand 11 (v := (p1 &&& (255 : Int32))) X0 at_10 rfl rfl ?_
    obtain ⟨c436, ce437⟩ : ∃ z : Int32, (p1 &&& (255 : Int32)).toUInt32.toUInt16.toUInt32.toInt32 = z := ⟨_, rfl⟩
    have cr438 := own_c255 _ _ ce437
    refine o_i2c 12 (v := c436) X0 at_11 rfl ce437 <| oS 14 (l' := #[ii p1, ii p2, ii p3, ii p4, ii p5, ii 3, ii c436, uu, uu, uu, uu, uu, uu, uu, uu, uu, uu, uu]) X0 at_12 rfl rfl <| oI 15 X0 at_14 rfl rfl <| o_sipush 18 (v := 255) X0 at_15 rfl (by decide) <| o_iand 19 (v := (p2 &&& (255 : Int32))) X0 at_18 rfl rfl ?_
    obtain ⟨c439, ce440⟩ : ∃ z : Int32, (p2 &&& (255 : Int32)).toUInt32.toUInt16.toUInt32.toInt32 = z := ⟨_, rfl⟩
    have cr441 := own_c255 _ _ ce440
    refine o_i2c 20 (v := c439) X0 at_19 rfl ce440 <| oS 22 (l' := #[ii p1, ii p2, ii p3, ii p4, ii p5, ii 3, ii c436, ii c439, uu, uu, uu, uu, uu, uu, uu, uu, uu, uu]) X0 at_20 rfl rfl <| oI 23 X0 at_22 rfl rfl <| o_sipush 26 (v := 255) X0 at_23 rfl (by decide) <| o_iand 27 (v := (p3 &&& (255 : Int32))) X0 at_26 rfl rfl ?_
    obtain ⟨c442, ce443⟩ : ∃ z : Int32, (p3 &&& (255 : Int32)).toUInt32.toUInt16.toUInt32.toInt32 = z := ⟨_, rfl⟩
    have cr444 := own_c255 _ _ ce443
    refine o_i2c 28 (v := c442) X0 at_27 rfl ce443 <| oS 30 (l' := #[ii p1, ii p2, ii p3, ii p4, ii p5, ii 3, ii c436, ii c439, ii c442, uu, uu, uu, uu, uu, uu, uu, uu, uu]) X0 at_28 rfl rfl <| oI 31 X0 at_30 rfl rfl <| o_sipush 34 (v := 255) X0 at_31 rfl (by decide) <| o_iand 35 (v := (p4 &&& (255 : Int32))) X0 at_34 rfl rfl ?_
    obtain ⟨c445, ce446⟩ : ∃ z : Int32, (p4 &&& (255 : Int32)).toUInt32.toUInt16.toUInt32.toInt32 = z := ⟨_, rfl⟩
    have cr447 := own_c255 _ _ ce446
    refine o_i2c 36 (v := c445) X0 at_35 rfl ce446 <| oS 38 (l' := #[ii p1, ii p2, ii p3, ii p4, ii p5, ii 3, ii c436, ii c439, ii c442, ii c445, uu, uu, uu, uu, uu, uu, uu, uu]) X0 at_36 rfl rfl <| oi 40 X0 at_38 rfl rfl <| mS 43 0 X0 (rm_au3 G cr438) (u3 G) all0 at_40 rfl rfl rfl lr (by decide) all0 ?_
    rintro _ _ _ _ X448 ⟨xa1_449, _, _, rfl, q452, q453, q454, _, q456, q457, _, _⟩ _ _ _
    refine sk [.ref xa1_449] rfl <| oU 45 (l' := #[ii p1, ii p2, ii p3, ii p4, ii p5, ii 3, ii c436, ii c439, ii c442, ii c445, rr xa1_449, uu, uu, uu, uu, uu, uu, uu]) X448 at_43 rfl rfl rfl <| oi 47 X448 at_45 rfl rfl <| mS 50 0 X448 (rm_au3 G cr441) (u3 G) all0 at_47 rfl rfl rfl lr (by decide) all0 ?_
    rintro _ _ _ _ X460 ⟨xa1_461, _, _, rfl, q464, q465, q466, _, q468, q469, _, _⟩ K460 _ _
    refine sk [.ref xa1_461] rfl <| oU 52 (l' := #[ii p1, ii p2, ii p3, ii p4, ii p5, ii 3, ii c436, ii c439, ii c442, ii c445, rr xa1_449, rr xa1_461, uu, uu, uu, uu, uu, uu]) X460 at_50 rfl rfl rfl <| oi 54 X460 at_52 rfl rfl <| mS 57 0 X460 (rm_au3 G cr444) (u3 G) all0 at_54 rfl rfl rfl lr (by decide) all0 ?_
    rintro _ _ _ _ X472 ⟨xa1_473, _, _, rfl, q476, q477, q478, _, q480, q481, _, _⟩ K472 _ _
    refine sk [.ref xa1_473] rfl <| oU 59 (l' := #[ii p1, ii p2, ii p3, ii p4, ii p5, ii 3, ii c436, ii c439, ii c442, ii c445, rr xa1_449, rr xa1_461, rr xa1_473, uu, uu, uu, uu, uu]) X472 at_57 rfl rfl rfl <| oi 61 X472 at_59 rfl rfl <| mS 64 0 X472 (rm_au3 G cr447) (u3 G) all0 at_61 rfl rfl rfl lr (by decide) all0 ?_
    rintro _ _ _ _ X484 ⟨xa1_485, _, _, rfl, q488, q489, q490, _, q492, q493, _, _⟩ K484 _ _
    refine sk [.ref xa1_485] rfl <| oU 66 (l' := #[ii p1, ii p2, ii p3, ii p4, ii p5, ii 3, ii c436, ii c439, ii c442, ii c445, rr xa1_449, rr xa1_461, rr xa1_473, rr xa1_485, uu, uu, uu, uu]) X484 at_64 rfl rfl rfl <| oi 68 X484 at_66 rfl rfl <| oi 70 X484 at_68 rfl rfl <| oi 72 X484 at_70 rfl rfl <| oi 74 X484 at_72 rfl rfl <| oi 76 X484 at_74 rfl rfl <| mS 79 0 X484 (rm_au167 G cr438 cr441 cr444 cr447 (by decide) (by decide) (by decide)) (u9 G) all0 at_76 rfl rfl rfl lr (by decide) all0 ?_
    rintro _ _ _ _ X496 ⟨xa1_497, _, _, rfl, q500, q501, q502, _, q504, _, _, _⟩ K496 _ _
    refine sk [.ref xa1_497] rfl <| oU 81 (l' := #[ii p1, ii p2, ii p3, ii p4, ii p5, ii 3, ii c436, ii c439, ii c442, ii c445, rr xa1_449, rr xa1_461, rr xa1_473, rr xa1_485, rr xa1_497, uu, uu, uu]) X496 at_79 rfl rfl rfl <| o_new 84 X496 (w48 G) (w49 G) (w50 G) at_81 rfl (by decide) (by decide) ?_
    intro _ h508 b508 X508 _ _ E508 A508 D508 _ _ _
    have f509 : fd2 Z h508 b508 (.int 0) := D508 (Or.inl (w68 G)) fd_2
    have f510 : fd3 Z h508 b508 .null := D508 (Or.inl (w71 G)) fd_3
    have f511 : fd4 Z h508 b508 (.int 0) := D508 (Or.inl (w95 G)) fd_2
    refine oD 85 X508 at_84 rfl rfl <| mP 88 1 X508 (rm_au12 G A508 f510 f509 f511 (by omega)) (u12 G) all0 at_85 rfl rfl rfl lr (by decide) (aR (by omega) all0) ?_
    rintro _ _ _ _ X512 ⟨rfl, q513, q514, q515, q516⟩ K512 _ _
    refine sk [.ref b508] rfl <| oU 90 (l' := #[ii p1, ii p2, ii p3, ii p4, ii p5, ii 3, ii c436, ii c439, ii c442, ii c445, rr xa1_449, rr xa1_461, rr xa1_473, rr xa1_485, rr xa1_497, rr b508, uu, uu]) X512 at_88 rfl rfl rfl <| oi 92 X512 at_90 rfl rfl <| oc 93 (v := 1) X512 at_92 rfl (by decide) <| oN 96 X512 at_93 rfl (flt (by decide)).1 <| oa 98 X512 at_96 rfl rfl <| oa 100 X512 at_98 rfl rfl ?_
    have f517 := ((((q464.keep K472).keep K484).keep K496).ext E508).keep K512
    refine mV 103 0 X512 q513 (rm_au74 G q513 q514 q515 q516 f517 (by omega)) (u59 G) all0 at_100 rfl rfl rfl lr (by decide) (aR (by omega) all0) ?_
    rintro _ _ _ _ X518 ⟨_, _, rfl, q521, q522, q523, q524, q525, q526, q527, _⟩ K518 _ _
    refine sk [.int 1] rfl <| o_pop 104 X518 at_103 rfl rfl <| oi 106 X518 at_104 rfl rfl <| oc 107 (v := 2) X518 at_106 rfl (by decide) <| oN 110 X518 at_107 rfl (flt (by decide)).1 <| oa 112 X518 at_110 rfl rfl <| oa 114 X518 at_112 rfl rfl ?_
    have f529 := ((((q476.keep K484).keep K496).ext E508).keep K512).keep K518
    refine mV 117 0 X518 q521 (rm_au120 G q521 q522 q523 q524 f529 q525 q526 q527 (by omega)) (u59 G) all0 at_114 rfl rfl rfl lr (by decide) (aR (by omega) (aR (by omega) all0)) ?_
    rintro _ _ _ _ X530 ⟨rfl, q531, q532, q533, q534, q535, q536, q537⟩ K530 _ _
    refine sk [.int 1] rfl <| o_pop 118 X530 at_117 rfl rfl <| oi 120 X530 at_118 rfl rfl <| oc 121 (v := 3) X530 at_120 rfl (by decide) <| oN 124 X530 at_121 rfl (flt (by decide)).1 <| oa 126 X530 at_124 rfl rfl <| oa 128 X530 at_126 rfl rfl ?_
    have f538 := ((((q488.keep K496).ext E508).keep K512).keep K518).keep K530
    refine mV 131 0 X530 q531 (rm_au169 G q531 q532 q533 q534 f538 q535 q536 q537 (by omega)) (u59 G) all0 at_128 rfl rfl rfl lr (by decide) (aR (by omega) (aR (by omega) all0)) ?_
    rintro _ _ _ _ X539 ⟨rfl, q540, q541, _, q543, q544, q545, _⟩ K539 _ _
    refine sk [.int 1] rfl <| o_pop 132 X539 at_131 rfl rfl <| o_new 135 X539 (w72 G) (w73 G) (w74 G) at_132 rfl (by decide) (by decide) ?_
    intro _ h547 b547 X547 _ _ E547 A547 D547 _ _ _
    have f548 : fd5 Z h547 b547 .null := D547 (Or.inr (w80 G)) fd_4
    have f549 : fd6 Z h547 b547 .null := D547 (Or.inr (w162 G)) fd_5
    refine oD 136 X547 at_135 rfl rfl <| oa 138 X547 at_136 rfl rfl <| oa 140 X547 at_138 rfl rfl ?_
    have f550 := q540.ext E547
    have f551 := q541.ext E547
    have f552 := q543.ext E547
    have f553 := q544.ext E547
    have f554 := q545.ext E547
    have f555 := (((f517.keep K518).keep K530).keep K539).ext E547
    have f556 := ((f529.keep K530).keep K539).ext E547
    have f557 := (f538.keep K539).ext E547
    refine mP 143 1 X547 (rm_au174 G A547 f549 f548 f550 f551 f552 f553 f554 f555 f556 f557 (by omega)) (u22 G) all0 at_140 rfl rfl rfl lr (by decide) (aR (by omega) all0) ?_
    rintro _ _ _ _ X558 ⟨_, _, _, _, rfl, q563, q564, q565, q566, q567, _, q569, q570, q571, q572, q573, q574, _, _⟩ K558 _ _
    refine sk [.ref b547] rfl <| oU 145 (l' := #[ii p1, ii p2, ii p3, ii p4, ii p5, ii 3, ii c436, ii c439, ii c442, ii c445, rr xa1_449, rr xa1_461, rr xa1_473, rr xa1_485, rr xa1_497, rr b508, rr b547, uu]) X558 at_143 rfl rfl rfl <| oa 147 X558 at_145 rfl rfl ?_
    have f577 := ((((((((((q452.keep K460).keep K472).keep K484).keep K496).ext E508).keep K512).keep K518).keep K530).keep K539).ext E547).keep K558
    have f578 := ((((((((((q453.k0 K460).k0 K472).k0 K484).k0 K496).ext E508).k1 K512 (by omega)).k1 K518 (by omega)).k2 K530 (by omega)).k2 K539 (by omega)).ext E547).k1 K558 (by omega)
    have f579 := ((((((((((q454.k0 K460).k0 K472).k0 K484).k0 K496).ext E508).k1 K512 (by omega)).k1 K518 (by omega)).k2 K530 (by omega)).k2 K539 (by omega)).ext E547).k1 K558 (by omega)
    have f580 := ((((((((((q456.k0 K460).k0 K472).k0 K484).k0 K496).ext E508).k1 K512 (by omega)).k1 K518 (by omega)).k2 K530 (by omega)).k2 K539 (by omega)).ext E547).k1 K558 (by omega)
    have f581 := ((((((((((q457.keep K460).keep K472).keep K484).keep K496).ext E508).keep K512).keep K518).keep K530).keep K539).ext E547).keep K558
    have f582 := f555.keep K558
    have f583 := (((((((((q465.k0 K472).k0 K484).k0 K496).ext E508).k1 K512 (by omega)).k1 K518 (by omega)).k2 K530 (by omega)).k2 K539 (by omega)).ext E547).k1 K558 (by omega)
    have f584 := (((((((((q466.k0 K472).k0 K484).k0 K496).ext E508).k1 K512 (by omega)).k1 K518 (by omega)).k2 K530 (by omega)).k2 K539 (by omega)).ext E547).k1 K558 (by omega)
    have f585 := f556.keep K558
    have f586 := ((((((((q477.k0 K484).k0 K496).ext E508).k1 K512 (by omega)).k1 K518 (by omega)).k2 K530 (by omega)).k2 K539 (by omega)).ext E547).k1 K558 (by omega)
    have f587 := ((((((((q478.k0 K484).k0 K496).ext E508).k1 K512 (by omega)).k1 K518 (by omega)).k2 K530 (by omega)).k2 K539 (by omega)).ext E547).k1 K558 (by omega)
    have f588 := f557.keep K558
    have f589 := (((((((q489.k0 K496).ext E508).k1 K512 (by omega)).k1 K518 (by omega)).k2 K530 (by omega)).k2 K539 (by omega)).ext E547).k1 K558 (by omega)
    have f590 := (((((((q490.k0 K496).ext E508).k1 K512 (by omega)).k1 K518 (by omega)).k2 K530 (by omega)).k2 K539 (by omega)).ext E547).k1 K558 (by omega)
    have f591 := (((((((((q468.k0 K472).k0 K484).k0 K496).ext E508).k1 K512 (by omega)).k1 K518 (by omega)).k2 K530 (by omega)).k2 K539 (by omega)).ext E547).k1 K558 (by omega)
    have f592 := (((((((((q469.keep K472).keep K484).keep K496).ext E508).keep K512).keep K518).keep K530).keep K539).ext E547).keep K558
    have f593 := ((((((((q480.k0 K484).k0 K496).ext E508).k1 K512 (by omega)).k1 K518 (by omega)).k2 K530 (by omega)).k2 K539 (by omega)).ext E547).k1 K558 (by omega)
    have f594 := ((((((((q481.keep K484).keep K496).ext E508).keep K512).keep K518).keep K530).keep K539).ext E547).keep K558
    have f595 := (((((((q492.k0 K496).ext E508).k1 K512 (by omega)).k1 K518 (by omega)).k2 K530 (by omega)).k2 K539 (by omega)).ext E547).k1 K558 (by omega)
    have f596 := (((((((q493.keep K496).ext E508).keep K512).keep K518).keep K530).keep K539).ext E547).keep K558
    refine mV 150 0 X558 q563 (rm_au208 G q563 q564 q565 q566 q567 f577 f578 f579 q569 q570 q571 q572 f580 f581 q573 q574 f582 f583 f584 f585 f586 f587 f588 f589 f590 f591 f592 f593 f594 f595 f596 (by omega)) (u52 G) all0 at_147 rfl rfl rfl lr (by decide) all0 ?_
    rintro _ _ _ _ X597 ⟨xa1_598, _, _, rfl, q601, q602, q603, _, q605, _, _, _⟩ K597 _ _
    refine sk [.ref xa1_598] rfl <| oU 152 (l' := #[ii p1, ii p2, ii p3, ii p4, ii p5, ii 3, ii c436, ii c439, ii c442, ii c445, rr xa1_449, rr xa1_461, rr xa1_473, rr xa1_485, rr xa1_497, rr b508, rr b547, rr xa1_598]) X597 at_150 rfl rfl rfl <| oa 154 X597 at_152 rfl rfl <| oa 156 X597 at_154 rfl rfl ?_
    have f609 := (((((((q500.ext E508).keep K512).keep K518).keep K530).keep K539).ext E547).keep K558).keep K597
    have f610 := (((((((q501.ext E508).k1 K512 (by omega)).k1 K518 (by omega)).k2 K530 (by omega)).k2 K539 (by omega)).ext E547).k1 K558 (by omega)).k0 K597
    have f611 := (((((((q502.ext E508).k1 K512 (by omega)).k1 K518 (by omega)).k2 K530 (by omega)).k2 K539 (by omega)).ext E547).k1 K558 (by omega)).k0 K597
    have f612 := (((((((q504.ext E508).k1 K512 (by omega)).k1 K518 (by omega)).k2 K530 (by omega)).k2 K539 (by omega)).ext E547).k1 K558 (by omega)).k0 K597
    refine mV 159 0 X597 q601 (rm_au210 G q602 q603 f609 f610 f611 q605 f612 (by decide) (by omega)) (u54 G) all0 at_156 rfl rfl rfl lr (by decide) all0 ?_
    rintro _ _ _ _ X613 rfl _ _ _
    refine sk [.int 1] rfl ?_
    exact o_nret (y := (1 : Int32)) (t := .boolean) X613 at_159 rfl (by decide) (by simp) (by decide) (by decide) (fun _ CC => rfl)
end Walks
set_option maxRecDepth 65536 in
set_option maxHeartbeats 40000000 in
theorem comes_1 {Post : Tables → Env → Array Value → State → Outcome → State → Prop} (hpost : ∀ tb e args s v u, (limb_1_1.after args s (.returned v) u = true ∧ limb_1_2.after args s (.returned v) u = true ∧ True) → ReturnedEndW s (.returned v) u (Jvm.fieldLocs frame_1_writes args s ++ Jvm.arrayLocs frame_1_arrays args s ++ Jvm.staticLocs frame_1_statics s) 64 2432 → Post tb e args s (.returned v) u) :
    ArmFor flags0 classFile x code maxLocals ret World_1 tables_1 room_1 Calls_1 rest_1 Pre_1 Post := by
  intro l hfl _ _ p e ha hc hk s m args below hf hA hF happ hP
  obtain ⟨hcalls, hrest, hpre⟩ := hP
  obtain ⟨-, -, -, hnamed, -, -, -, hat⟩ := (Spec.applies_iff hf).mp happ
  obtain ⟨hg, hn⟩ := and_e (Cond.before_iff.mp (show (Jvm.Cond.and given_1 narrow_1).before args s = true from hpre))
  obtain ⟨g0, gt0⟩ := and_e hg
  obtain ⟨ga0, gt1⟩ := and_e gt0
  obtain ⟨ga1, gt2⟩ := and_e gt1
  obtain ⟨ga2, gt3⟩ := and_e gt2
  obtain ⟨ga3, gt4⟩ := and_e gt3
  obtain ⟨v0, v1, v2, v3, v4, rfl⟩ : ∃ v0 v1 v2 v3 v4 : Value, args = #[v0, v1, v2, v3, v4] := by
    have hs : args.size = 5 := by simpa [Cond.value, given_1] using g0
    obtain ⟨L⟩ := args
    match L, hs with
    | [v0, v1, v2, v3, v4], _ => exact ⟨v0, v1, v2, v3, v4, rfl⟩
  have hw := fun d (hd : d ∈ tables_1) => atoms_spec (ws := Jvm.Cond.code x code maxLocals ret :: tables_1) hat d (List.mem_cons_of_mem _ hd)
  have hfit : Fit s := fun {y c} hc i hi => by
    obtain ⟨ha, rfl⟩ := Array.getElem?_eq_some_iff.mp hc
    have q := List.all_eq_true.mp ((Array.all_eq_true_iff_forall_mem.mp hF) _ (Array.getElem_mem ha)) i (List.mem_range.mpr hi)
    simpa [Array.getElem?_eq_getElem hi] using q
  obtain ⟨hsets, hown0⟩ := atoms_of _ (rest_1_c_eq ▸ (show rest_1_c.before _ s = true from hrest))
  obtain ⟨i0, ei0⟩ := is_v ga0
  obtain rfl : v0 = (.int i0) := Option.some.inj ei0
  obtain ⟨i1, ei1⟩ := is_v ga1
  obtain rfl : v1 = (.int i1) := Option.some.inj ei1
  obtain ⟨i2, ei2⟩ := is_v ga2
  obtain rfl : v2 = (.int i2) := Option.some.inj ei2
  obtain ⟨i3, ei3⟩ := is_v ga3
  obtain rfl : v3 = (.int i3) := Option.some.inj ei3
  obtain ⟨i4, ei4⟩ := is_v gt4
  obtain rfl : v4 = (.int i4) := Option.some.inj ei4
  obtain ⟨zc, ezc⟩ := is_v (Cond.before_iff.mp (hsets _ (List.mem_of_getElem? (i := 1) rfl)))
  have S_zc : Sta s s.heap "java/lang/String" "COMPACT_STRINGS" "Z" (.int zc) := Sta.start ezc (Or.inl (hsets _ (List.mem_of_getElem? (i := 0) rfl)))
  have hzc : ¬ (zc = (0 : Int32)) := gotF (Cond.eq_ints ezc (Term.int_eval (0))) (not_v (Cond.before_iff.mp (hsets _ (List.mem_of_getElem? (i := 2) rfl))))
  obtain ⟨dce, kdce, S_dce, A_dce, E_dce⟩ := own_empty (args := #[.int i0, .int i1, .int i2, .int i3, .int i4]) hfit (w_50 hw) (hsets _ (List.mem_of_getElem? (i := 11) rfl)) (by decide) (hsets _ (List.mem_of_getElem? (i := 15) rfl)) (hsets _ (List.mem_of_getElem? (i := 16) rfl)) (hsets _ (List.mem_of_getElem? (i := 17) rfl))
  obtain ⟨eed, keed, S_eed, A_eed, E_eed⟩ := own_empty (args := #[.int i0, .int i1, .int i2, .int i3, .int i4]) hfit (w_50 hw) (hsets _ (List.mem_of_getElem? (i := 9) rfl)) (by decide) (hsets _ (List.mem_of_getElem? (i := 12) rfl)) (hsets _ (List.mem_of_getElem? (i := 13) rfl)) (hsets _ (List.mem_of_getElem? (i := 14) rfl))
  have hEW := (EW.cons (w_230 hw) (by decide) (EW.cons (w_287 hw) (by decide) EW.nil))
  have hCH0 : CHv s [("com/example/row_lease/rowlease/model/VersionGroup", 49), ("java/util/AbstractCollection", 92)] s.vm s.heap := CHv.start hEW (fun p hp => hcalls.2.2.2.2.1 p hp) (hsets _ (List.mem_of_getElem? (i := 2) rfl)) (w_14 hw) (w_10 hw)
  have hKn0 : KnP false s.vm below := fun q => nomatch q
  obtain ⟨c_mroa, k_mroa, mroa, hm_mroa⟩ := hcalls.1
  obtain ⟨c_mral, k_mral, mral, hm_mral⟩ := hcalls.2.1
  obtain ⟨c_mrul, k_mrul, mrul, hm_mrul⟩ := hcalls.2.2.1
  obtain ⟨c_mrur, k_mrur, mrur, hm_mrur⟩ := hcalls.2.2.2.1
  obtain ⟨n, o, h1, h2, h3, _, L, rfl, ⟨N, -, rfl⟩, -, hq⟩ := rm_law (G := (⟨hw, S_zc, hzc, hEW, S_dce, A_dce, E_dce, S_eed, A_eed, E_eed, ⟨_, _, hm_mroa⟩, ⟨_, _, hm_mral⟩, ⟨_, _, hm_mrul⟩, ⟨_, _, hm_mrur⟩⟩ : GL l s _ zc dce kdce eed keed mroa mral mrul mrur)) tables_1 i0 i1 i2 i3 i4 (Old.start s) p e ha hc hk s m _ below hf ((Spec.applies_iff_loose hf).mp happ).1 ⟨rfl, State.Warmed39.refl s, rfl, hCH0, fun _ q => nomatch q⟩ hKn0
  refine ⟨n, _, h1, h2, h3, hpost _ _ _ _ _ _ ⟨Cond.after_iff.mpr rfl, Cond.after_iff.mpr (eq_i res_at (Term.int_eval (1)) rfl), trivial⟩ ⟨hq.1, hq.2.1, hq.2.2.1, (hq.2.2.2.sift fun y hy => Or.inr (N y hy)).mono (by decide) (by decide)⟩⟩
theorem main_1_1 : Claimed_1_1 := comes_1 fun _ _ _ _ _ _ h hF => ⟨h.1, hF⟩
theorem main_1_2 : Claimed_1_2 := comes_1 fun _ _ _ _ _ _ h hF => ⟨h.2.1, hF⟩
end Jvm.Pilot.@@N@@
namespace Jvm.Pilot.@@N@@
open Jvm Jvm.ClassFile Sem Op Lib Jvm.Free Jvm.Stand Jvm.Pilot.@@N@@.Jvm.D
/-! MADE BY PROGRAM (witnessworld.py) out of the Statement's table words and the real class files: 42 classes; the members and pool entries that the words name. The judged class is class 1, her method 1. -/
namespace start1
open Jvm.ClassFile
def u (s : String) : CpInfo := .utf8 (stringToUtf16 s)
/-- a pool by its gaps: so many unusable entries, then the entry; so many at the end -/
def gap : Nat → List CpInfo → List CpInfo
  | 0, r => r
  | n + 1, r => .unusable :: gap n r
def poolList (es : List (Nat × CpInfo)) (last : Nat) : List CpInfo := es.foldr (fun e r => gap e.1 (e.2 :: r)) (gap last [])
def pool (es : List (Nat × CpInfo)) (last : Nat) : Array CpInfo := ⟨poolList es last⟩
def fileOf (pool : Array CpInfo) (this : Nat) (attrs : Array Attribute := #[]) (ms : Array MethodInfo := #[]) (fl : Nat := 33) (sup : Nat := 0) (ifs : Array Nat := #[]) (fds : Array FieldInfo := #[]) : ClassFile where
  minorVersion := 0
  majorVersion := 65
  constantPool := pool
  accessFlags := fl
  thisClass := this
  superClass := sup
  interfaces := ifs
  fields := fds
  methods := ms
  attributes := attrs
def plain (name : String) (sup : Option ClassId) : Class where
  name := name
  kind := .ordinary
  loader := none
  accessFlags := 33
  super := sup
  interfaces := #[]
  cf := none
  fields := #[]
  methods := #[]
  instanceTypes := #[]
  staticTypes := #[]
  resolved := #[]
  callSites := []
  init := .initialized
  statics := none
  mirror := none

def pool0 : Array CpInfo := pool [(5, u "<init>"), (0, u "()V"), (1, .class_ 10), (1, u "java/lang/Object"), (0, u "getClass"), (0, u "()Ljava/lang/Class;"), (5, u "()Ljava/lang/String;"), (18, u "toString")] 86

def k0c0 : Code := ⟨0, 1, object_method_1_code, #[], #[]⟩
def k0m0 : Method := ⟨"<init>", "()V", ⟨[], none⟩, 1, some k0c0⟩
def k0m1 : Method := ⟨"getClass", "()Ljava/lang/Class;", ⟨[], some (.object "java/lang/Class")⟩, 273, none⟩
def k0c2 : Code := ⟨2, 1, object_method_1_code, #[], #[]⟩
def k0m2 : Method := ⟨"toString", "()Ljava/lang/String;", ⟨[], some (.object "java/lang/String")⟩, 1, some k0c2⟩
/-- java/lang/Object -/
def k0 : Class := { plain "java/lang/Object" none with
  accessFlags := 33
  interfaces := #[]
  cf := some (fileOf pool0 8 #[] #[⟨1, 5, 6, #[]⟩, ⟨273, 11, 12, #[]⟩, ⟨1, 37, 18, #[]⟩] 33 0 #[] #[])
  fields := #[]
  methods := #[k0m0, k0m1, k0m2]
  instanceTypes := #[]
  staticTypes := #[]
  resolved := Array.replicate 124 none
  statics := none }

def pool1 : Array CpInfo := pool [(2, .class_ 4), (0, .nameAndType 5 6), (0, u "java/lang/Object"), (0, u "<init>"), (0, u "()V"), (0, .methodref 8 9), (0, .class_ 10), (0, .nameAndType 11 12), (0, u "java/lang/String"), (0, u "valueOf"), (0, u "(C)Ljava/lang/String;"), (0, .methodref 14 15), (0, .class_ 16), (0, .nameAndType 17 18), (0, u "com/example/row_lease/rowlease/model/VersionGroupToStringPinLaw"), (0, u "expected"), (0, u "(ICCCC)Ljava/lang/String;"), (0, .class_ 20), (0, u "java/util/ArrayList"), (0, .methodref 19 3), (0, .methodref 19 23), (0, .nameAndType 24 25), (0, u "add"), (0, u "(Ljava/lang/Object;)Z"), (0, .class_ 27), (0, u "com/example/row_lease/rowlease/model/VersionGroup"), (0, .methodref 26 29), (0, .nameAndType 5 30), (0, u "(Ljava/lang/String;Ljava/util/List;)V"), (0, .methodref 26 32), (0, .nameAndType 33 34), (0, u "toString"), (0, u "()Ljava/lang/String;"), (0, .methodref 8 36), (0, .nameAndType 37 25), (0, u "equals"), (0, .methodref 8 39), (0, .nameAndType 5 40), (0, u "([C)V"), (2, u "law"), (0, u "(IIIII)Z")] 3

def k1m0 : Method := ⟨"<init>", "()V", ⟨[], none⟩, 1, none⟩
def k1c1 : Code := ⟨5, 18, code, #[], #[]⟩
def k1m1 : Method := ⟨"law", "(IIIII)Z", ⟨[.int, .int, .int, .int, .int], some .boolean⟩, 9, some k1c1⟩
def k1c2 : Code := ⟨6, 5, method_3_code, #[], #[]⟩
def k1m2 : Method := ⟨"expected", "(ICCCC)Ljava/lang/String;", ⟨[.int, .char, .char, .char, .char], some (.object "java/lang/String")⟩, 10, some k1c2⟩
/-- com/example/row_lease/rowlease/model/VersionGroupToStringPinLaw -/
def k1 : Class := { plain "com/example/row_lease/rowlease/model/VersionGroupToStringPinLaw" (some 0) with
  accessFlags := 49
  interfaces := #[]
  cf := some (fileOf pool1 14 #[] #[⟨1, 5, 6, #[]⟩, ⟨9, 43, 44, #[]⟩, ⟨10, 17, 18, #[]⟩] 49 2 #[] #[])
  fields := #[]
  methods := #[k1m0, k1m1, k1m2]
  instanceTypes := #[]
  staticTypes := #[]
  resolved := Array.replicate 48 none
  statics := none }

def pool2 : Array CpInfo := pool [(1, .class_ 2), (0, u "java/io/Serializable"), (0, .class_ 4), (0, u "java/lang/Object")] 2

/-- java/io/Serializable -/
def k2 : Class := { plain "java/io/Serializable" (some 0) with
  accessFlags := 1537
  interfaces := #[]
  cf := some (fileOf pool2 1 #[] #[] 1537 3 #[] #[])
  fields := #[]
  methods := #[]
  instanceTypes := #[]
  staticTypes := #[]
  resolved := Array.replicate 7 none
  statics := none }

def pool3 : Array CpInfo := pool [(1, .class_ 2), (0, u "java/lang/Comparable"), (0, .class_ 4), (0, u "java/lang/Object")] 7

/-- java/lang/Comparable -/
def k3 : Class := { plain "java/lang/Comparable" (some 0) with
  accessFlags := 1537
  interfaces := #[]
  cf := some (fileOf pool3 1 #[] #[] 1537 3 #[] #[])
  fields := #[]
  methods := #[]
  instanceTypes := #[]
  staticTypes := #[]
  resolved := Array.replicate 12 none
  statics := none }

def pool4 : Array CpInfo := pool [(2, .class_ 4), (1, u "java/lang/CharSequence"), (42, .class_ 48), (0, u "java/lang/CharSequence$1CodePointIterator"), (10, .class_ 60), (0, u "java/lang/CharSequence$1CharIterator"), (5, .class_ 67), (0, u "java/lang/Object")] 63

/-- java/lang/CharSequence -/
def k4 : Class := { plain "java/lang/CharSequence" (some 0) with
  accessFlags := 1537
  interfaces := #[]
  cf := some (fileOf pool4 2 #[.nestMembers #[47, 59]] #[] 1537 66 #[] #[])
  fields := #[]
  methods := #[]
  instanceTypes := #[]
  staticTypes := #[]
  resolved := Array.replicate 131 none
  statics := none }

def pool5 : Array CpInfo := pool [(1, .class_ 2), (0, u "java/lang/constant/Constable"), (0, .class_ 4), (0, u "java/lang/Object")] 6

/-- java/lang/constant/Constable -/
def k5 : Class := { plain "java/lang/constant/Constable" (some 0) with
  accessFlags := 1537
  interfaces := #[]
  cf := some (fileOf pool5 1 #[] #[] 1537 3 #[] #[])
  fields := #[]
  methods := #[]
  instanceTypes := #[]
  staticTypes := #[]
  resolved := Array.replicate 11 none
  statics := none }

def pool6 : Array CpInfo := pool [(1, .class_ 2), (0, u "java/lang/constant/ConstantDesc"), (0, .class_ 4), (0, u "java/lang/Object")] 32

/-- java/lang/constant/ConstantDesc -/
def k6 : Class := { plain "java/lang/constant/ConstantDesc" (some 0) with
  accessFlags := 1537
  interfaces := #[]
  cf := some (fileOf pool6 1 #[] #[] 1537 3 #[] #[])
  fields := #[]
  methods := #[]
  instanceTypes := #[]
  staticTypes := #[]
  resolved := Array.replicate 37 none
  statics := none }

def pool7 : Array CpInfo := pool [(1, .methodref 2 3), (0, .class_ 4), (0, .nameAndType 5 6), (0, u "java/lang/Object"), (0, u "<init>"), (0, u "()V"), (2, .fieldref 10 11), (0, .class_ 12), (0, .nameAndType 13 14), (0, u "java/lang/String"), (0, u "value"), (0, u "[B"), (0, .fieldref 10 16), (0, .nameAndType 17 18), (0, u "coder"), (0, u "B"), (2, u "hash"), (0, u "I"), (2, u "hashIsZero"), (0, u "Z"), (0, .methodref 10 28), (0, .nameAndType 5 29), (0, u "([CIILjava/lang/Void;)V"), (8, .fieldref 10 39), (0, .nameAndType 40 26), (0, u "COMPACT_STRINGS"), (1, .class_ 44), (1, u "java/lang/StringUTF16"), (0, u "compress"), (1, .methodref 42 48), (0, .nameAndType 49 50), (0, u "coderFromArrayLen"), (0, u "([BI)B"), (2, u "toBytes"), (0, .methodref 55 56), (0, .class_ 57), (0, .nameAndType 58 59), (0, u "java/util/Arrays"), (0, u "copyOfRange"), (0, u "([BII)[B"), (47, .class_ 109), (1, u "java/lang/StringLatin1"), (32, u "()Z"), (34, .methodref 42 178), (0, .nameAndType 45 179), (0, u "([CII)[B"), (13, .class_ 195), (1, u "java/lang/System"), (13, .methodref 10 210), (0, .nameAndType 5 211), (0, u "([BB)V"), (0, .methodref 193 213), (0, .nameAndType 214 215), (0, u "arraycopy"), (0, u "(Ljava/lang/Object;ILjava/lang/Object;II)V"), (118, u "()I"), (0, .methodref 10 336), (0, .nameAndType 17 337), (0, u "()B"), (2, u "()[B"), (28, u "(C)Z"), (92, .nameAndType 463 464), (0, u "toString"), (0, u "()Ljava/lang/String;"), (24, .methodref 10 490), (0, .nameAndType 5 491), (0, u "(Ljava/lang/AbstractStringBuilder;Ljava/lang/Void;)V"), (1, .nameAndType 494 142), (0, u "isLatin1"), (11, .nameAndType 507 334), (0, u "length"), (24, u "getBytes"), (8, .methodref 107 542), (0, .nameAndType 543 544), (0, u "equals"), (0, u "([B[B)Z"), (4, .methodref 550 506), (0, .class_ 551), (0, u "java/lang/AbstractStringBuilder"), (0, .methodref 550 553), (0, .nameAndType 554 340), (0, u "getValue"), (18, u "(Ljava/lang/Object;)Z"), (1, .class_ 576), (0, u "java/lang/CharSequence"), (22, u "CASE_INSENSITIVE_ORDER"), (0, u "Ljava/util/Comparator;"), (181, u "valueOf"), (0, u "(C)Ljava/lang/String;"), (24, u "(Ljava/lang/Object;)Ljava/lang/String;"), (12, u "([BIB)V"), (185, .methodref 2 462), (2, u "([C)V"), (4, .methodref 107 1016), (0, .nameAndType 1017 369), (0, u "canEncode"), (0, .methodref 107 1019), (0, .nameAndType 53 1020), (0, u "(C)[B"), (26, .methodref 550 493), (53, u "serialPersistentFields"), (0, u "[Ljava/io/ObjectStreamField;"), (0, .class_ 1104), (0, u "java/lang/String$CaseInsensitiveComparator"), (1, .class_ 1107), (0, u "java/io/Serializable"), (0, .class_ 1109), (0, u "java/lang/Comparable"), (0, .class_ 1111), (0, u "java/lang/constant/Constable"), (0, .class_ 1113), (0, u "java/lang/constant/ConstantDesc"), (2, u "serialVersionUID"), (0, u "J"), (3, u "REPL"), (0, u "C"), (2, u "LATIN1"), (1, u "UTF16"), (105, u "(Ljava/lang/StringBuilder;)V")] 217

def k7m0 : Method := ⟨"<init>", "()V", ⟨[], none⟩, 1, none⟩
def k7c1 : Code := ⟨5, 2, jdk_42_method_3_code, #[], #[]⟩
def k7m1 : Method := ⟨"<init>", "([C)V", ⟨[(.array .char)], none⟩, 1, some k7c1⟩
def k7c2 : Code := ⟨3, 2, jdk_42_method_53_code, #[], #[]⟩
def k7m2 : Method := ⟨"<init>", "(Ljava/lang/StringBuilder;)V", ⟨[(.object "java/lang/StringBuilder")], none⟩, 1, some k7c2⟩
def k7c3 : Code := ⟨2, 1, jdk_42_method_54_code, #[], #[]⟩
def k7m3 : Method := ⟨"length", "()I", ⟨[], some .int⟩, 1, some k7c3⟩
def k7c4 : Code := ⟨2, 3, jdk_42_method_66_code, #[], #[]⟩
def k7m4 : Method := ⟨"equals", "(Ljava/lang/Object;)Z", ⟨[(.object "java/lang/Object")], some .boolean⟩, 1, some k7c4⟩
def k7c5 : Code := ⟨1, 1, jdk_42_method_126_code, #[], #[]⟩
def k7m5 : Method := ⟨"toString", "()Ljava/lang/String;", ⟨[], some (.object "java/lang/String")⟩, 1, some k7c5⟩
def k7c6 : Code := ⟨1, 1, jdk_42_method_133_code, #[], #[]⟩
def k7m6 : Method := ⟨"valueOf", "(Ljava/lang/Object;)Ljava/lang/String;", ⟨[(.object "java/lang/Object")], some (.object "java/lang/String")⟩, 9, some k7c6⟩
def k7c7 : Code := ⟨4, 1, jdk_42_method_139_code, #[], #[]⟩
def k7m7 : Method := ⟨"valueOf", "(C)Ljava/lang/String;", ⟨[.char], some (.object "java/lang/String")⟩, 9, some k7c7⟩
def k7c8 : Code := ⟨5, 4, jdk_42_method_147_code, #[], #[]⟩
def k7m8 : Method := ⟨"getBytes", "([BIB)V", ⟨[(.array .byte), .int, .byte], none⟩, 0, some k7c8⟩
def k7c9 : Code := ⟨4, 6, jdk_42_method_149_code, #[], #[]⟩
def k7m9 : Method := ⟨"<init>", "([CIILjava/lang/Void;)V", ⟨[(.array .char), .int, .int, (.object "java/lang/Void")], none⟩, 2, some k7c9⟩
def k7c10 : Code := ⟨5, 5, jdk_42_method_150_code, #[], #[]⟩
def k7m10 : Method := ⟨"<init>", "(Ljava/lang/AbstractStringBuilder;Ljava/lang/Void;)V", ⟨[(.object "java/lang/AbstractStringBuilder"), (.object "java/lang/Void")], none⟩, 0, some k7c10⟩
def k7c11 : Code := ⟨2, 3, jdk_42_method_151_code, #[], #[]⟩
def k7m11 : Method := ⟨"<init>", "([BB)V", ⟨[(.array .byte), .byte], none⟩, 0, some k7c11⟩
def k7c12 : Code := ⟨1, 1, jdk_42_method_152_code, #[], #[]⟩
def k7m12 : Method := ⟨"coder", "()B", ⟨[], some .byte⟩, 0, some k7c12⟩
/-- java/lang/String -/
def k7 : Class := { plain "java/lang/String" (some 0) with
  accessFlags := 49
  interfaces := #[2, 3, 4, 5, 6]
  cf := some (fileOf pool7 10 #[.nestMembers #[1103]] #[⟨1, 5, 6, #[]⟩, ⟨1, 5, 1010, #[]⟩, ⟨1, 5, 1233, #[]⟩, ⟨1, 507, 334, #[]⟩, ⟨1, 543, 573, #[]⟩, ⟨1, 463, 464, #[]⟩, ⟨9, 782, 808, #[]⟩, ⟨9, 782, 783, #[]⟩, ⟨0, 532, 821, #[]⟩, ⟨2, 5, 29, #[]⟩, ⟨0, 5, 491, #[]⟩, ⟨0, 5, 211, #[]⟩, ⟨0, 17, 337, #[]⟩] 49 2 #[1106, 1108, 575, 1110, 1112] #[⟨18, 13, 14, #[]⟩, ⟨18, 17, 18, #[]⟩, ⟨2, 21, 22, #[]⟩, ⟨2, 25, 26, #[]⟩, ⟨26, 1116, 1117, #[]⟩, ⟨24, 40, 26, #[]⟩, ⟨26, 1101, 1102, #[]⟩, ⟨26, 1121, 1122, #[]⟩, ⟨25, 599, 600, #[]⟩, ⟨24, 1125, 18, #[]⟩, ⟨24, 1127, 18, #[]⟩])
  fields := #[⟨"value", (.array .byte), 18, 0, 0⟩, ⟨"coder", .byte, 18, 1, 0⟩, ⟨"hash", .int, 2, 2, 0⟩, ⟨"hashIsZero", .boolean, 2, 3, 0⟩, ⟨"serialVersionUID", .long, 26, 0, 0⟩, ⟨"COMPACT_STRINGS", .boolean, 24, 1, 0⟩, ⟨"serialPersistentFields", (.array (.object "java/io/ObjectStreamField")), 26, 2, 0⟩, ⟨"REPL", .char, 26, 3, 0⟩, ⟨"CASE_INSENSITIVE_ORDER", (.object "java/util/Comparator"), 25, 4, 0⟩, ⟨"LATIN1", .byte, 24, 5, 0⟩, ⟨"UTF16", .byte, 24, 6, 0⟩]
  methods := #[k7m0, k7m1, k7m2, k7m3, k7m4, k7m5, k7m6, k7m7, k7m8, k7m9, k7m10, k7m11, k7m12]
  instanceTypes := #[(.array .byte), .byte, .int, .boolean]
  staticTypes := #[.long, .boolean, (.array (.object "java/io/ObjectStreamField")), .char, (.object "java/util/Comparator"), .byte, .byte]
  resolved := Array.replicate 1451 none
  statics := some 0 }

def pool8 : Array CpInfo := pool [(4, .class_ 6), (1, u "java/lang/Object"), (0, u "<init>"), (0, u "()V"), (5, .class_ 16), (1, u "java/lang/StringLatin1"), (73, u "canEncode"), (14, u "(C)Z"), (15, u "$assertionsDisabled"), (0, u "Z"), (98, .class_ 223), (1, u "java/lang/StringLatin1$LinesSpliterator"), (57, u "equals"), (0, u "([B[B)Z"), (97, u "toBytes"), (1, u "(C)[B"), (7, .class_ 391), (0, u "java/lang/StringLatin1$CharsSpliterator")] 3

def k8m0 : Method := ⟨"<init>", "()V", ⟨[], none⟩, 0, none⟩
def k8c1 : Code := ⟨2, 1, jdk_43_method_3_code, #[], #[]⟩
def k8m1 : Method := ⟨"canEncode", "(C)Z", ⟨[.char], some .boolean⟩, 9, some k8c1⟩
def k8c2 : Code := ⟨3, 3, jdk_43_method_13_code, #[], #[]⟩
def k8m2 : Method := ⟨"equals", "([B[B)Z", ⟨[(.array .byte), (.array .byte)], some .boolean⟩, 9, some k8c2⟩
def k8c3 : Code := ⟨4, 1, jdk_43_method_46_code, #[], #[]⟩
def k8m3 : Method := ⟨"toBytes", "(C)[B", ⟨[.char], some (.array .byte)⟩, 9, some k8c3⟩
/-- java/lang/StringLatin1 -/
def k8 : Class := { plain "java/lang/StringLatin1" (some 0) with
  accessFlags := 48
  interfaces := #[]
  cf := some (fileOf pool8 14 #[.nestMembers #[390, 221]] #[⟨0, 7, 8, #[]⟩, ⟨9, 90, 105, #[]⟩, ⟨9, 281, 282, #[]⟩, ⟨9, 380, 382, #[]⟩] 48 4 #[] #[⟨4120, 121, 122, #[]⟩])
  fields := #[⟨"$assertionsDisabled", .boolean, 4120, 0, 0⟩]
  methods := #[k8m0, k8m1, k8m2, k8m3]
  instanceTypes := #[]
  staticTypes := #[.boolean]
  resolved := Array.replicate 395 none
  statics := none }

def pool9 : Array CpInfo := pool [(6, .class_ 8), (1, u "java/lang/Object"), (0, u "<init>"), (0, u "()V"), (1, .class_ 14), (1, u "java/lang/StringUTF16"), (31, u "$assertionsDisabled"), (0, u "Z"), (13, u "HI_BYTE_SHIFT"), (0, u "I"), (2, u "LO_BYTE_SHIFT"), (49, .methodref 12 116), (0, .nameAndType 117 118), (0, u "compress"), (0, u "([CI[BII)I"), (3, u "([CII)[B"), (138, u "coderFromArrayLen"), (0, u "([BI)B"), (106, .class_ 371), (1, u "java/lang/StringUTF16$LinesSpliterator"), (58, u "MAX_LENGTH"), (196, .class_ 628), (0, u "java/lang/StringUTF16$CodePointsSpliterator"), (0, .class_ 630), (0, u "java/lang/StringUTF16$CharsSpliterator")] 4

def k9m0 : Method := ⟨"<init>", "()V", ⟨[], none⟩, 0, none⟩
def k9c1 : Code := ⟨2, 2, jdk_52_method_15_code, #[], #[]⟩
def k9m1 : Method := ⟨"coderFromArrayLen", "([BI)B", ⟨[(.array .byte), .int], some .byte⟩, 8, some k9c1⟩
def k9c2 : Code := ⟨5, 6, jdk_52_method_16_code, #[], #[]⟩
def k9m2 : Method := ⟨"compress", "([CII)[B", ⟨[(.array .char), .int, .int], some (.array .byte)⟩, 9, some k9c2⟩
def k9c3 : Code := ⟨3, 7, jdk_52_method_21_code, #[], #[]⟩
def k9m3 : Method := ⟨"compress", "([CI[BII)I", ⟨[(.array .char), .int, (.array .byte), .int, .int], some .int⟩, 9, some k9c3⟩
/-- java/lang/StringUTF16 -/
def k9 : Class := { plain "java/lang/StringUTF16" (some 0) with
  accessFlags := 48
  interfaces := #[]
  cf := some (fileOf pool9 12 #[.nestMembers #[627, 629, 369]] #[⟨0, 9, 10, #[]⟩, ⟨8, 261, 262, #[]⟩, ⟨9, 117, 122, #[]⟩, ⟨9, 117, 118, #[]⟩] 48 6 #[] #[⟨26, 61, 62, #[]⟩, ⟨26, 65, 62, #[]⟩, ⟨24, 430, 62, #[]⟩, ⟨4120, 46, 47, #[]⟩])
  fields := #[⟨"HI_BYTE_SHIFT", .int, 26, 0, 0⟩, ⟨"LO_BYTE_SHIFT", .int, 26, 1, 0⟩, ⟨"MAX_LENGTH", .int, 24, 2, 0⟩, ⟨"$assertionsDisabled", .boolean, 4120, 3, 0⟩]
  methods := #[k9m0, k9m1, k9m2, k9m3]
  instanceTypes := #[]
  staticTypes := #[.int, .int, .int, .boolean]
  resolved := Array.replicate 635 none
  statics := none }

def pool10 : Array CpInfo := pool [(8, .class_ 10), (1, u "java/lang/Iterable"), (24, .class_ 36), (0, u "java/lang/Object")] 25

/-- java/lang/Iterable -/
def k10 : Class := { plain "java/lang/Iterable" (some 0) with
  accessFlags := 1537
  interfaces := #[]
  cf := some (fileOf pool10 8 #[] #[] 1537 35 #[] #[])
  fields := #[]
  methods := #[]
  instanceTypes := #[]
  staticTypes := #[]
  resolved := Array.replicate 62 none
  statics := none }

def pool11 : Array CpInfo := pool [(10, .class_ 12), (1, u "java/util/Collection"), (0, u "toArray"), (46, .class_ 61), (0, u "java/lang/Object"), (0, .class_ 63), (0, u "java/lang/Iterable"), (6, u "()[Ljava/lang/Object;")] 44

def k11m0 : Method := ⟨"toArray", "()[Ljava/lang/Object;", ⟨[], some (.array (.object "java/lang/Object"))⟩, 1025, none⟩
/-- java/util/Collection -/
def k11 : Class := { plain "java/util/Collection" (some 0) with
  accessFlags := 1537
  interfaces := #[10]
  cf := some (fileOf pool11 10 #[] #[⟨1025, 13, 70, #[]⟩] 1537 60 #[62] #[])
  fields := #[]
  methods := #[k11m0]
  instanceTypes := #[]
  staticTypes := #[]
  resolved := Array.replicate 115 none
  statics := none }

def pool12 : Array CpInfo := pool [(1, .methodref 2 3), (0, .class_ 4), (0, .nameAndType 5 6), (0, u "java/lang/Object"), (0, u "<init>"), (0, u "()V"), (1, .class_ 10), (1, u "java/util/AbstractCollection"), (2, .methodref 8 14), (0, .nameAndType 15 16), (0, u "iterator"), (0, u "()Ljava/util/Iterator;"), (0, .interfaceMethodref 18 19), (0, .class_ 20), (0, .nameAndType 21 22), (0, u "java/util/Iterator"), (0, u "hasNext"), (0, u "()Z"), (0, .interfaceMethodref 18 24), (0, .nameAndType 25 26), (0, u "next"), (0, u "()Ljava/lang/Object;"), (50, .class_ 78), (0, u "java/util/Collection"), (13, .string 93), (0, u "[]"), (0, .class_ 95), (0, u "java/lang/StringBuilder"), (0, .methodref 94 3), (0, .methodref 94 98), (0, .nameAndType 99 100), (0, u "append"), (0, u "(C)Ljava/lang/StringBuilder;"), (2, .methodref 94 104), (0, .nameAndType 99 105), (0, u "(Ljava/lang/Object;)Ljava/lang/StringBuilder;"), (0, .methodref 94 107), (0, .nameAndType 108 109), (0, u "toString"), (0, u "()Ljava/lang/String;")] 50

def k12c0 : Code := ⟨1, 1, jdk_22_method_1_code, #[], #[]⟩
def k12m0 : Method := ⟨"<init>", "()V", ⟨[], none⟩, 4, some k12c0⟩
def k12m1 : Method := ⟨"iterator", "()Ljava/util/Iterator;", ⟨[], some (.object "java/util/Iterator")⟩, 1025, none⟩
def k12c2 : Code := ⟨3, 4, jdk_22_method_16_code, #[], #[]⟩
def k12m2 : Method := ⟨"toString", "()Ljava/lang/String;", ⟨[], some (.object "java/lang/String")⟩, 1, some k12c2⟩
/-- java/util/AbstractCollection -/
def k12 : Class := { plain "java/util/AbstractCollection" (some 0) with
  accessFlags := 1057
  interfaces := #[11]
  cf := some (fileOf pool12 8 #[] #[⟨4, 5, 6, #[]⟩, ⟨1025, 15, 16, #[]⟩, ⟨1, 108, 109, #[]⟩] 1057 2 #[77] #[])
  fields := #[]
  methods := #[k12m0, k12m1, k12m2]
  instanceTypes := #[]
  staticTypes := #[]
  resolved := Array.replicate 160 none
  statics := none }

def pool13 : Array CpInfo := pool [(8, .class_ 10), (1, u "java/util/SequencedCollection"), (15, .class_ 27), (0, u "java/lang/Object"), (0, .class_ 29), (0, u "java/util/Collection")] 27

/-- java/util/SequencedCollection -/
def k13 : Class := { plain "java/util/SequencedCollection" (some 0) with
  accessFlags := 1537
  interfaces := #[11]
  cf := some (fileOf pool13 8 #[] #[] 1537 26 #[28] #[])
  fields := #[]
  methods := #[]
  instanceTypes := #[]
  staticTypes := #[]
  resolved := Array.replicate 57 none
  statics := none }

def pool14 : Array CpInfo := pool [(8, .class_ 10), (1, u "java/util/List"), (92, .class_ 104), (0, u "java/lang/Object"), (15, .class_ 121), (0, u "java/util/SequencedCollection")] 129

/-- java/util/List -/
def k14 : Class := { plain "java/util/List" (some 0) with
  accessFlags := 1537
  interfaces := #[13]
  cf := some (fileOf pool14 8 #[] #[] 1537 103 #[120] #[])
  fields := #[]
  methods := #[]
  instanceTypes := #[]
  staticTypes := #[]
  resolved := Array.replicate 251 none
  statics := none }

def pool15 : Array CpInfo := pool [(1, .methodref 2 3), (0, .class_ 4), (0, .nameAndType 5 6), (0, u "java/util/AbstractCollection"), (0, u "<init>"), (0, u "()V"), (0, .fieldref 8 9), (0, .class_ 10), (0, .nameAndType 11 12), (0, u "java/util/AbstractList"), (0, u "modCount"), (0, u "I"), (64, .class_ 78), (0, u "java/util/AbstractList$Itr"), (3, .class_ 83), (0, u "java/util/AbstractList$ListItr"), (9, .class_ 94), (0, u "java/util/AbstractList$RandomAccessSubList"), (3, .class_ 99), (0, u "java/util/AbstractList$SubList"), (33, .class_ 134), (0, u "java/util/List"), (73, .class_ 209), (0, u "java/util/AbstractList$SubList$1"), (0, .class_ 211), (0, u "java/util/AbstractList$RandomAccessSpliterator")] 6

def k15c0 : Code := ⟨2, 1, jdk_39_method_1_code, #[], #[]⟩
def k15m0 : Method := ⟨"<init>", "()V", ⟨[], none⟩, 4, some k15c0⟩
/-- java/util/AbstractList -/
def k15 : Class := { plain "java/util/AbstractList" (some 12) with
  accessFlags := 1057
  interfaces := #[14]
  cf := some (fileOf pool15 8 #[.nestMembers #[93, 98, 208, 210, 82, 77]] #[⟨4, 5, 6, #[]⟩] 1057 2 #[133] #[⟨132, 11, 12, #[]⟩])
  fields := #[⟨"modCount", .int, 132, 0, 0⟩]
  methods := #[k15m0]
  instanceTypes := #[.int]
  staticTypes := #[]
  resolved := Array.replicate 218 none
  statics := none }

def pool16 : Array CpInfo := pool [(1, .class_ 2), (0, u "java/util/RandomAccess"), (0, .class_ 4), (0, u "java/lang/Object")] 2

/-- java/util/RandomAccess -/
def k16 : Class := { plain "java/util/RandomAccess" (some 0) with
  accessFlags := 1537
  interfaces := #[]
  cf := some (fileOf pool16 1 #[] #[] 1537 3 #[] #[])
  fields := #[]
  methods := #[]
  instanceTypes := #[]
  staticTypes := #[]
  resolved := Array.replicate 7 none
  statics := none }

def pool17 : Array CpInfo := pool [(1, .class_ 2), (0, u "java/lang/Cloneable"), (0, .class_ 4), (0, u "java/lang/Object")] 2

/-- java/lang/Cloneable -/
def k17 : Class := { plain "java/lang/Cloneable" (some 0) with
  accessFlags := 1537
  interfaces := #[]
  cf := some (fileOf pool17 1 #[] #[] 1537 3 #[] #[])
  fields := #[]
  methods := #[]
  instanceTypes := #[]
  staticTypes := #[]
  resolved := Array.replicate 7 none
  statics := none }

def pool18 : Array CpInfo := pool [(1, .methodref 2 3), (0, .class_ 4), (0, .nameAndType 5 6), (0, u "java/util/AbstractList"), (0, u "<init>"), (0, u "()V"), (0, .class_ 8), (0, u "java/lang/Object"), (0, .fieldref 10 11), (0, .class_ 12), (0, .nameAndType 13 14), (0, u "java/util/ArrayList"), (0, u "elementData"), (0, u "[Ljava/lang/Object;"), (0, .fieldref 10 16), (0, .nameAndType 17 14), (0, u "EMPTY_ELEMENTDATA"), (21, .fieldref 10 40), (0, .nameAndType 41 14), (0, u "DEFAULTCAPACITY_EMPTY_ELEMENTDATA"), (0, .interfaceMethodref 43 44), (0, .class_ 45), (0, .nameAndType 46 47), (0, u "java/util/Collection"), (0, u "toArray"), (0, u "()[Ljava/lang/Object;"), (0, .fieldref 10 49), (0, .nameAndType 50 51), (0, u "size"), (0, u "I"), (0, .interfaceMethodref 43 53), (0, .nameAndType 54 55), (0, u "getClass"), (0, u "()Ljava/lang/Class;"), (2, .class_ 60), (1, u "java/util/Arrays"), (0, u "copyOf"), (1, .fieldref 10 64), (0, .nameAndType 65 51), (0, u "modCount"), (0, .methodref 58 67), (0, .nameAndType 61 68), (0, u "([Ljava/lang/Object;I)[Ljava/lang/Object;"), (0, .methodref 10 70), (0, .nameAndType 71 72), (0, u "grow"), (0, u "(I)[Ljava/lang/Object;"), (6, .methodref 80 81), (0, .class_ 82), (0, .nameAndType 83 84), (0, u "java/lang/Math"), (0, u "max"), (0, u "(II)I"), (11, u "(Ljava/lang/Object;)Z"), (32, .methodref 10 130), (0, .nameAndType 71 47), (0, .methodref 10 132), (0, .nameAndType 133 134), (0, u "add"), (0, u "(Ljava/lang/Object;[Ljava/lang/Object;I)V"), (13, .class_ 149), (0, u "java/util/List"), (16, u "iterator"), (0, u "()Ljava/util/Iterator;"), (94, .class_ 263), (0, u "java/util/ArrayList$ListItr"), (3, .class_ 268), (0, u "java/util/ArrayList$Itr"), (0, .methodref 267 270), (0, .nameAndType 5 271), (0, u "(Ljava/util/ArrayList;)V"), (4, .class_ 277), (0, u "java/util/ArrayList$SubList"), (12, .class_ 291), (0, u "java/util/ArrayList$ArrayListSpliterator"), (37, .class_ 330), (0, u "java/util/RandomAccess"), (0, .class_ 332), (0, u "java/lang/Cloneable"), (0, .class_ 334), (0, u "java/io/Serializable"), (0, u "serialVersionUID"), (0, u "J"), (3, u "DEFAULT_CAPACITY"), (10, u "(Ljava/util/Collection;)V"), (148, .class_ 501), (0, u "java/util/ArrayList$SubList$2"), (0, .class_ 503), (0, u "java/util/ArrayList$SubList$1")] 5

def k18c0 : Code := ⟨2, 1, jdk_38_method_2_code, #[], #[]⟩
def k18m0 : Method := ⟨"<init>", "()V", ⟨[], none⟩, 1, some k18c0⟩
def k18c1 : Code := ⟨4, 3, jdk_38_method_3_code, #[], #[]⟩
def k18m1 : Method := ⟨"<init>", "(Ljava/util/Collection;)V", ⟨[(.object "java/util/Collection")], none⟩, 1, some k18c1⟩
def k18c2 : Code := ⟨4, 4, jdk_38_method_6_code, #[], #[]⟩
def k18m2 : Method := ⟨"grow", "(I)[Ljava/lang/Object;", ⟨[.int], some (.array (.object "java/lang/Object"))⟩, 2, some k18c2⟩
def k18c3 : Code := ⟨3, 1, jdk_38_method_7_code, #[], #[]⟩
def k18m3 : Method := ⟨"grow", "()[Ljava/lang/Object;", ⟨[], some (.array (.object "java/lang/Object"))⟩, 2, some k18c3⟩
def k18c4 : Code := ⟨2, 1, jdk_38_method_16_code, #[], #[]⟩
def k18m4 : Method := ⟨"toArray", "()[Ljava/lang/Object;", ⟨[], some (.array (.object "java/lang/Object"))⟩, 1, some k18c4⟩
def k18c5 : Code := ⟨3, 4, jdk_38_method_24_code, #[], #[]⟩
def k18m5 : Method := ⟨"add", "(Ljava/lang/Object;[Ljava/lang/Object;I)V", ⟨[(.object "java/lang/Object"), (.array (.object "java/lang/Object")), .int], none⟩, 2, some k18c5⟩
def k18c6 : Code := ⟨4, 2, jdk_38_method_25_code, #[], #[]⟩
def k18m6 : Method := ⟨"add", "(Ljava/lang/Object;)Z", ⟨[(.object "java/lang/Object")], some .boolean⟩, 1, some k18c6⟩
def k18c7 : Code := ⟨3, 1, jdk_38_method_55_code, #[], #[]⟩
def k18m7 : Method := ⟨"iterator", "()Ljava/util/Iterator;", ⟨[], some (.object "java/util/Iterator")⟩, 1, some k18c7⟩
/-- java/util/ArrayList -/
def k18 : Class := { plain "java/util/ArrayList" (some 15) with
  accessFlags := 33
  interfaces := #[14, 16, 17, 2]
  cf := some (fileOf pool18 10 #[.nestMembers #[290, 276, 500, 502, 262, 267]] #[⟨1, 5, 6, #[]⟩, ⟨1, 5, 351, #[]⟩, ⟨2, 71, 72, #[]⟩, ⟨2, 71, 47, #[]⟩, ⟨1, 46, 47, #[]⟩, ⟨2, 133, 134, #[]⟩, ⟨1, 133, 96, #[]⟩, ⟨1, 166, 167, #[]⟩] 33 2 #[148, 329, 331, 333] #[⟨26, 335, 336, #[]⟩, ⟨26, 340, 51, #[]⟩, ⟨26, 17, 14, #[]⟩, ⟨26, 41, 14, #[]⟩, ⟨128, 13, 14, #[]⟩, ⟨2, 50, 51, #[]⟩])
  fields := #[⟨"serialVersionUID", .long, 26, 0, 0⟩, ⟨"DEFAULT_CAPACITY", .int, 26, 1, 0⟩, ⟨"EMPTY_ELEMENTDATA", (.array (.object "java/lang/Object")), 26, 2, 0⟩, ⟨"DEFAULTCAPACITY_EMPTY_ELEMENTDATA", (.array (.object "java/lang/Object")), 26, 3, 0⟩, ⟨"elementData", (.array (.object "java/lang/Object")), 128, 1, 0⟩, ⟨"size", .int, 2, 2, 0⟩]
  methods := #[k18m0, k18m1, k18m2, k18m3, k18m4, k18m5, k18m6, k18m7]
  instanceTypes := #[.int, (.array (.object "java/lang/Object")), .int]
  staticTypes := #[.long, .int, (.array (.object "java/lang/Object")), (.array (.object "java/lang/Object"))]
  resolved := Array.replicate 509 none
  mirror := some 4
  statics := some 1 }

def pool19 : Array CpInfo := pool [(1, .methodref 2 3), (0, .class_ 4), (0, .nameAndType 5 6), (0, u "java/lang/Object"), (0, u "<init>"), (0, u "()V"), (0, .fieldref 8 9), (0, .class_ 10), (0, .nameAndType 11 12), (0, u "com/example/row_lease/rowlease/model/VersionGroup"), (0, u "versionColumn"), (0, u "Ljava/lang/String;"), (0, .class_ 14), (0, u "java/util/ArrayList"), (0, .methodref 13 16), (0, .nameAndType 5 17), (0, u "(Ljava/util/Collection;)V"), (0, .methodref 19 20), (0, .class_ 21), (0, .nameAndType 22 23), (0, u "java/util/Collections"), (0, u "unmodifiableList"), (0, u "(Ljava/util/List;)Ljava/util/List;"), (0, .fieldref 8 25), (0, .nameAndType 26 27), (0, u "columns"), (0, u "Ljava/util/List;"), (14, .class_ 43), (0, u "java/lang/StringBuilder"), (0, .methodref 42 3), (0, .methodref 42 46), (0, .nameAndType 47 48), (0, u "append"), (0, u "(Ljava/lang/String;)Ljava/lang/StringBuilder;"), (0, .string 50), (0, u " "), (0, .methodref 42 52), (0, .nameAndType 47 53), (0, u "(Ljava/lang/Object;)Ljava/lang/StringBuilder;"), (0, .methodref 42 55), (0, .nameAndType 56 57), (0, u "toString"), (0, u "()Ljava/lang/String;"), (2, u "(Ljava/lang/String;Ljava/util/List;)V")] 8

def k19c0 : Code := ⟨4, 3, prog_25_method_1_code, #[], #[]⟩
def k19m0 : Method := ⟨"<init>", "(Ljava/lang/String;Ljava/util/List;)V", ⟨[(.object "java/lang/String"), (.object "java/util/List")], none⟩, 0, some k19c0⟩
def k19c1 : Code := ⟨2, 1, prog_25_method_6_code, #[], #[]⟩
def k19m1 : Method := ⟨"toString", "()Ljava/lang/String;", ⟨[], some (.object "java/lang/String")⟩, 1, some k19c1⟩
/-- com/example/row_lease/rowlease/model/VersionGroup -/
def k19 : Class := { plain "com/example/row_lease/rowlease/model/VersionGroup" (some 0) with
  accessFlags := 33
  interfaces := #[]
  cf := some (fileOf pool19 8 #[] #[⟨0, 5, 60, #[]⟩, ⟨1, 56, 57, #[]⟩] 33 2 #[] #[⟨18, 11, 12, #[]⟩, ⟨18, 26, 27, #[]⟩])
  fields := #[⟨"versionColumn", (.object "java/lang/String"), 18, 0, 0⟩, ⟨"columns", (.object "java/util/List"), 18, 1, 0⟩]
  methods := #[k19m0, k19m1]
  instanceTypes := #[(.object "java/lang/String"), (.object "java/util/List")]
  staticTypes := #[]
  resolved := Array.replicate 69 none
  statics := none }

def pool20 : Array CpInfo := pool [(2, .class_ 4), (1, u "java/lang/Object"), (0, u "<init>"), (0, u "()V"), (7, .class_ 16), (1, u "java/util/Arrays"), (57, .class_ 76), (1, u "java/util/Arrays$NaturalOrder"), (9, .methodref 2 87), (0, .nameAndType 88 89), (0, u "getClass"), (0, u "()Ljava/lang/Class;"), (20, .class_ 111), (0, u "[Ljava/lang/Object;"), (1, .class_ 115), (1, u "java/util/Arrays$LegacyMergeSort"), (1, u "Z"), (21, u "copyOfRange"), (10, .methodref 151 152), (0, .class_ 153), (0, .nameAndType 154 155), (0, u "java/lang/System"), (0, u "arraycopy"), (0, u "(Ljava/lang/Object;ILjava/lang/Object;II)V"), (144, .methodref 14 301), (0, .nameAndType 302 303), (0, u "copyOf"), (0, u "([Ljava/lang/Object;ILjava/lang/Class;)[Ljava/lang/Object;"), (0, .methodref 305 306), (0, .class_ 307), (0, .nameAndType 308 309), (0, u "java/lang/Math"), (0, u "min"), (0, u "(II)I"), (29, .methodref 14 340), (0, .nameAndType 341 342), (0, u "copyOfRangeByte"), (0, u "([BII)[B"), (0, .methodref 14 344), (0, .nameAndType 345 346), (0, u "checkLength"), (0, u "(II)V"), (28, .class_ 376), (0, u "java/util/Arrays$ArrayList"), (68, u "$assertionsDisabled"), (269, u "MIN_ARRAY_SORT_GRAN"), (0, u "I"), (2, u "INSERTIONSORT_THRESHOLD"), (140, u "([Ljava/lang/Object;I)[Ljava/lang/Object;"), (114, .class_ 976), (0, u "java/util/Arrays$ArrayItr")] 52

def k20m0 : Method := ⟨"<init>", "()V", ⟨[], none⟩, 2, none⟩
def k20c1 : Code := ⟨3, 2, jdk_65_method_119_code, #[], #[]⟩
def k20m1 : Method := ⟨"copyOf", "([Ljava/lang/Object;I)[Ljava/lang/Object;", ⟨[(.array (.object "java/lang/Object")), .int], some (.array (.object "java/lang/Object"))⟩, 9, some k20c1⟩
def k20c2 : Code := ⟨6, 4, jdk_65_method_120_code, #[], #[]⟩
def k20m2 : Method := ⟨"copyOf", "([Ljava/lang/Object;ILjava/lang/Class;)[Ljava/lang/Object;", ⟨[(.array (.object "java/lang/Object")), .int, (.object "java/lang/Class")], some (.array (.object "java/lang/Object"))⟩, 9, some k20c2⟩
def k20c3 : Code := ⟨4, 2, jdk_65_method_131_code, #[], #[]⟩
def k20m3 : Method := ⟨"checkLength", "(II)V", ⟨[.int, .int], none⟩, 10, some k20c3⟩
def k20c4 : Code := ⟨3, 3, jdk_65_method_132_code, #[], #[]⟩
def k20m4 : Method := ⟨"copyOfRange", "([BII)[B", ⟨[(.array .byte), .int, .int], some (.array .byte)⟩, 9, some k20c4⟩
def k20c5 : Code := ⟨6, 5, jdk_65_method_133_code, #[], #[]⟩
def k20m5 : Method := ⟨"copyOfRangeByte", "([BII)[B", ⟨[(.array .byte), .int, .int], some (.array .byte)⟩, 10, some k20c5⟩
/-- java/util/Arrays -/
def k20 : Class := { plain "java/util/Arrays" (some 0) with
  accessFlags := 49
  interfaces := #[]
  cf := some (fileOf pool20 14 #[.nestMembers #[975, 375, 113, 74]] #[⟨2, 5, 6, #[]⟩, ⟨9, 302, 860, #[]⟩, ⟨9, 302, 303, #[]⟩, ⟨10, 345, 346, #[]⟩, ⟨9, 139, 342, #[]⟩, ⟨10, 341, 342, #[]⟩] 49 2 #[] #[⟨26, 715, 716, #[]⟩, ⟨26, 719, 716, #[]⟩, ⟨4120, 445, 117, #[]⟩])
  fields := #[⟨"MIN_ARRAY_SORT_GRAN", .int, 26, 0, 0⟩, ⟨"INSERTIONSORT_THRESHOLD", .int, 26, 1, 0⟩, ⟨"$assertionsDisabled", .boolean, 4120, 2, 0⟩]
  methods := #[k20m0, k20m1, k20m2, k20m3, k20m4, k20m5]
  instanceTypes := #[]
  staticTypes := #[.int, .int, .boolean]
  resolved := Array.replicate 1029 none
  statics := none }

def pool21 : Array CpInfo := pool [(1, .class_ 2), (0, u "java/lang/Math"), (1, .class_ 6), (1, u "java/lang/Object"), (0, u "<init>"), (0, u "()V"), (89, .class_ 100), (1, u "java/lang/Math$RandomNumberGeneratorHolder"), (71, u "negativeZeroFloatBits"), (0, u "J"), (2, u "negativeZeroDoubleBits"), (21, u "max"), (2, u "min"), (43, u "$assertionsDisabled"), (0, u "Z"), (88, u "(II)I"), (2, u "twoToTheDoubleScaleDown"), (0, u "D"), (4, u "twoToTheDoubleScaleUp"), (9, u "E"), (3, u "PI"), (2, u "TAU"), (2, u "DEGREES_TO_RADIANS"), (0, u "RADIANS_TO_DEGREES")] 94

def k21m0 : Method := ⟨"<init>", "()V", ⟨[], none⟩, 2, none⟩
def k21c1 : Code := ⟨2, 2, jdk_29_method_65_code, #[], #[]⟩
def k21m1 : Method := ⟨"max", "(II)I", ⟨[.int, .int], some .int⟩, 9, some k21c1⟩
def k21c2 : Code := ⟨2, 2, jdk_29_method_69_code, #[], #[]⟩
def k21m2 : Method := ⟨"min", "(II)I", ⟨[.int, .int], some .int⟩, 9, some k21c2⟩
/-- java/lang/Math -/
def k21 : Class := { plain "java/lang/Math" (some 0) with
  accessFlags := 49
  interfaces := #[]
  cf := some (fileOf pool21 1 #[.nestMembers #[98]] #[⟨2, 7, 8, #[]⟩, ⟨9, 198, 335, #[]⟩, ⟨9, 201, 335, #[]⟩] 49 4 #[] #[⟨25, 354, 339, #[]⟩, ⟨25, 358, 339, #[]⟩, ⟨25, 361, 339, #[]⟩, ⟨26, 364, 339, #[]⟩, ⟨26, 365, 339, #[]⟩, ⟨26, 172, 173, #[]⟩, ⟨26, 176, 173, #[]⟩, ⟨8, 344, 339, #[]⟩, ⟨8, 338, 339, #[]⟩, ⟨4120, 245, 246, #[]⟩])
  fields := #[⟨"E", .double, 25, 0, 0⟩, ⟨"PI", .double, 25, 1, 0⟩, ⟨"TAU", .double, 25, 2, 0⟩, ⟨"DEGREES_TO_RADIANS", .double, 26, 3, 0⟩, ⟨"RADIANS_TO_DEGREES", .double, 26, 4, 0⟩, ⟨"negativeZeroFloatBits", .long, 26, 5, 0⟩, ⟨"negativeZeroDoubleBits", .long, 26, 6, 0⟩, ⟨"twoToTheDoubleScaleUp", .double, 8, 7, 0⟩, ⟨"twoToTheDoubleScaleDown", .double, 8, 8, 0⟩, ⟨"$assertionsDisabled", .boolean, 4120, 9, 0⟩]
  methods := #[k21m0, k21m1, k21m2]
  instanceTypes := #[]
  staticTypes := #[.double, .double, .double, .double, .double, .long, .long, .double, .double, .boolean]
  resolved := Array.replicate 460 none
  statics := none }

def pool22 : Array CpInfo := pool [(2, .class_ 4), (1, u "java/lang/Object"), (0, u "<init>"), (0, u "()V"), (1, .class_ 10), (1, u "java/lang/System"), (0, u "allowSecurityManager"), (0, u "I"), (16, u "cons"), (0, u "Ljava/io/Console;"), (77, .class_ 110), (1, u "java/lang/System$CallersHolder"), (43, u "initialErrStream"), (0, u "Ljava/io/PrintStream;"), (19, u "security"), (0, u "Ljava/lang/SecurityManager;"), (31, .class_ 209), (0, u "java/lang/System$1"), (7, u "props"), (0, u "Ljava/util/Properties;"), (2, u "lineSeparator"), (0, u "Ljava/lang/String;"), (96, .class_ 321), (1, u "java/lang/System$LoggerFinder"), (5, .class_ 328), (0, u "java/lang/System$Logger"), (67, u "err"), (2, u "out"), (91, u "notSupportedJnuEncoding"), (15, u "in"), (17, u "initialIn"), (0, u "Ljava/io/InputStream;"), (35, u "bootLayer"), (0, u "Ljava/lang/ModuleLayer;"), (99, .class_ 664), (0, u "java/lang/System$2"), (9, u "NEVER"), (2, u "MAYBE"), (49, u "arraycopy"), (0, u "(Ljava/lang/Object;ILjava/lang/Object;II)V"), (72, .class_ 802), (0, u "java/lang/System$Logger$Level")] 31

def k22m0 : Method := ⟨"<init>", "()V", ⟨[], none⟩, 2, none⟩
def k22m1 : Method := ⟨"arraycopy", "(Ljava/lang/Object;ILjava/lang/Object;II)V", ⟨[(.object "java/lang/Object"), .int, (.object "java/lang/Object"), .int, .int], none⟩, 265, none⟩
/-- java/lang/System -/
def k22 : Class := { plain "java/lang/System" (some 0) with
  accessFlags := 49
  interfaces := #[]
  cf := some (fileOf pool22 8 #[.nestMembers #[319, 327, 801, 108, 663, 208]] #[⟨2, 5, 6, #[]⟩, ⟨265, 727, 728, #[]⟩] 49 2 #[] #[⟨25, 507, 526, #[]⟩, ⟨25, 399, 155, #[]⟩, ⟨25, 396, 155, #[]⟩, ⟨10, 525, 526, #[]⟩, ⟨26, 674, 12, #[]⟩, ⟨26, 677, 12, #[]⟩, ⟨10, 11, 12, #[]⟩, ⟨74, 175, 176, #[]⟩, ⟨10, 491, 222, #[]⟩, ⟨74, 29, 30, #[]⟩, ⟨74, 154, 155, #[]⟩, ⟨10, 217, 218, #[]⟩, ⟨10, 221, 222, #[]⟩, ⟨8, 562, 563, #[]⟩])
  fields := #[⟨"in", (.object "java/io/InputStream"), 25, 0, 0⟩, ⟨"out", (.object "java/io/PrintStream"), 25, 1, 0⟩, ⟨"err", (.object "java/io/PrintStream"), 25, 2, 0⟩, ⟨"initialIn", (.object "java/io/InputStream"), 10, 3, 0⟩, ⟨"NEVER", .int, 26, 4, 0⟩, ⟨"MAYBE", .int, 26, 5, 0⟩, ⟨"allowSecurityManager", .int, 10, 6, 0⟩, ⟨"security", (.object "java/lang/SecurityManager"), 74, 7, 0⟩, ⟨"notSupportedJnuEncoding", (.object "java/lang/String"), 10, 8, 0⟩, ⟨"cons", (.object "java/io/Console"), 74, 9, 0⟩, ⟨"initialErrStream", (.object "java/io/PrintStream"), 74, 10, 0⟩, ⟨"props", (.object "java/util/Properties"), 10, 11, 0⟩, ⟨"lineSeparator", (.object "java/lang/String"), 10, 12, 0⟩, ⟨"bootLayer", (.object "java/lang/ModuleLayer"), 8, 13, 0⟩]
  methods := #[k22m0, k22m1]
  instanceTypes := #[]
  staticTypes := #[(.object "java/io/InputStream"), (.object "java/io/PrintStream"), (.object "java/io/PrintStream"), (.object "java/io/InputStream"), .int, .int, .int, (.object "java/lang/SecurityManager"), (.object "java/lang/String"), (.object "java/io/Console"), (.object "java/io/PrintStream"), (.object "java/util/Properties"), (.object "java/lang/String"), (.object "java/lang/ModuleLayer")]
  resolved := Array.replicate 834 none
  statics := none }

def pool23 : Array CpInfo := pool [(2, .class_ 4), (1, u "java/lang/Object"), (0, u "<init>"), (0, u "()V"), (1, .class_ 10), (1, u "java/util/List"), (2, .class_ 14), (0, u "java/util/RandomAccess"), (4, .class_ 20), (0, u "java/util/Collections"), (63, u "r"), (0, u "Ljava/util/Random;"), (67, u "(Ljava/util/List;)V"), (9, .nameAndType 164 165), (0, u "getClass"), (0, u "()Ljava/lang/Class;"), (0, .class_ 167), (0, u "java/util/Collections$UnmodifiableCollection"), (6, .class_ 175), (0, u "java/util/Collections$UnmodifiableSequencedCollection"), (6, .class_ 183), (0, u "java/util/Collections$UnmodifiableSet"), (6, .class_ 191), (0, u "java/util/Collections$UnmodifiableSequencedSet"), (6, .class_ 199), (0, u "java/util/Collections$UnmodifiableSortedSet"), (6, .class_ 207), (0, u "java/util/Collections$UnmodifiableNavigableSet"), (3, .interfaceMethodref 8 163), (0, .class_ 213), (0, u "java/util/Collections$UnmodifiableList"), (0, .interfaceMethodref 8 163), (0, .class_ 216), (0, u "java/util/Collections$UnmodifiableRandomAccessList"), (0, .methodref 215 218), (0, .nameAndType 5 153), (4, .class_ 224), (0, u "java/util/Collections$UnmodifiableMap"), (6, .class_ 232), (0, u "java/util/Collections$UnmodifiableSequencedMap"), (4, .class_ 238), (0, u "java/util/Collections$UnmodifiableSortedMap"), (6, .class_ 246), (0, u "java/util/Collections$UnmodifiableNavigableMap"), (3, .class_ 251), (0, u "java/util/Collections$SynchronizedCollection"), (4, .class_ 257), (0, u "java/util/Collections$SynchronizedSet"), (4, .class_ 263), (0, u "java/util/Collections$SynchronizedSortedSet"), (1, .class_ 266), (0, u "java/util/Collections$SynchronizedNavigableSet"), (1, .class_ 269), (0, u "java/util/Collections$SynchronizedRandomAccessList"), (1, .class_ 272), (0, u "java/util/Collections$SynchronizedList"), (5, .class_ 279), (0, u "java/util/Collections$SynchronizedMap"), (1, .class_ 282), (0, u "java/util/Collections$SynchronizedSortedMap"), (1, .class_ 285), (0, u "java/util/Collections$SynchronizedNavigableMap"), (1, .class_ 288), (0, u "java/util/Collections$CheckedCollection"), (11, .class_ 301), (0, u "java/util/Collections$CheckedQueue"), (3, .class_ 306), (0, u "java/util/Collections$CheckedSet"), (3, .class_ 311), (0, u "java/util/Collections$CheckedSortedSet"), (3, .class_ 316), (0, u "java/util/Collections$CheckedNavigableSet"), (3, .class_ 321), (0, u "java/util/Collections$CheckedRandomAccessList"), (3, .class_ 326), (0, u "java/util/Collections$CheckedList"), (1, .class_ 329), (0, u "java/util/Collections$CheckedMap"), (3, .class_ 334), (0, u "java/util/Collections$CheckedSortedMap"), (3, .class_ 339), (0, u "java/util/Collections$CheckedNavigableMap"), (4, .class_ 346), (1, u "java/util/Collections$EmptyIterator"), (3, .class_ 352), (1, u "java/util/Collections$EmptyListIterator"), (2, .class_ 357), (1, u "java/util/Collections$EmptyEnumeration"), (4, u "EMPTY_SET"), (0, u "Ljava/util/Set;"), (6, u "EMPTY_LIST"), (0, u "Ljava/util/List;"), (2, u "EMPTY_MAP"), (0, u "Ljava/util/Map;"), (4, .class_ 381), (0, u "java/util/Collections$SingletonSet"), (2, .class_ 385), (0, u "java/util/Collections$1"), (1, .class_ 388), (0, u "java/util/Collections$2"), (1, .class_ 391), (0, u "java/util/Collections$SingletonList"), (1, .class_ 394), (0, u "java/util/Collections$SingletonMap"), (22, .class_ 418), (0, u "java/util/Collections$CopiesList"), (4, .class_ 425), (1, u "java/util/Collections$ReverseComparator"), (8, .class_ 435), (0, u "java/util/Collections$ReverseComparator2"), (6, .class_ 443), (0, u "java/util/Collections$3"), (25, .class_ 470), (0, u "java/util/Collections$SetFromMap"), (2, .class_ 474), (0, u "java/util/Collections$SequencedSetFromMap"), (3, .class_ 479), (0, u "java/util/Collections$AsLIFOQueue"), (11, .class_ 492), (0, u "java/util/Collections$EmptySet"), (1, .class_ 495), (0, u "java/util/Collections$EmptyList"), (1, .class_ 498), (0, u "java/util/Collections$EmptyMap"), (1, u "BINARYSEARCH_THRESHOLD"), (0, u "I"), (2, u "REVERSE_THRESHOLD"), (1, u "SHUFFLE_THRESHOLD"), (1, u "FILL_THRESHOLD"), (1, u "ROTATE_THRESHOLD"), (1, u "COPY_THRESHOLD"), (1, u "REPLACEALL_THRESHOLD"), (1, u "INDEXOFSUBLIST_THRESHOLD"), (129, u "unmodifiableList"), (0, u "(Ljava/util/List;)Ljava/util/List;"), (202, .class_ 851), (0, u "java/util/Collections$CheckedMap$CheckedEntrySet"), (0, .class_ 853), (0, u "java/util/Collections$CheckedMap$CheckedEntrySet$CheckedEntry"), (0, .class_ 855), (0, u "java/util/Collections$CheckedMap$CheckedEntrySet$1"), (0, .class_ 857), (0, u "java/util/Collections$CheckedList$1"), (0, .class_ 859), (0, u "java/util/Collections$CheckedCollection$1"), (0, .class_ 861), (0, u "java/util/Collections$UnmodifiableNavigableMap$EmptyNavigableMap"), (0, .class_ 863), (0, u "java/util/Collections$UnmodifiableMap$UnmodifiableEntrySet"), (0, .class_ 865), (0, u "java/util/Collections$UnmodifiableMap$UnmodifiableEntrySet$UnmodifiableEntry"), (0, .class_ 867), (0, u "java/util/Collections$UnmodifiableMap$UnmodifiableEntrySet$UnmodifiableEntrySetSpliterator"), (0, .class_ 869), (0, u "java/util/Collections$UnmodifiableMap$UnmodifiableEntrySet$1"), (0, .class_ 871), (0, u "java/util/Collections$UnmodifiableList$1"), (0, .class_ 873), (0, u "java/util/Collections$UnmodifiableNavigableSet$EmptyNavigableSet"), (0, .class_ 875), (0, u "java/util/Collections$UnmodifiableCollection$1")] 57

def k23m0 : Method := ⟨"<init>", "()V", ⟨[], none⟩, 2, none⟩
def k23c1 : Code := ⟨3, 1, jdk_79_method_35_code, #[], #[]⟩
def k23m1 : Method := ⟨"unmodifiableList", "(Ljava/util/List;)Ljava/util/List;", ⟨[(.object "java/util/List")], some (.object "java/util/List")⟩, 9, some k23c1⟩
/-- java/util/Collections -/
def k23 : Class := { plain "java/util/Collections" (some 0) with
  accessFlags := 33
  interfaces := #[]
  cf := some (fileOf pool23 19 #[.nestMembers #[478, 473, 469, 434, 423, 417, 393, 390, 380, 497, 494, 491, 355, 350, 344, 338, 333, 328, 850, 852, 854, 320, 325, 856, 315, 310, 305, 300, 287, 858, 284, 281, 278, 268, 271, 265, 262, 256, 250, 245, 860, 237, 231, 223, 862, 864, 866, 868, 215, 212, 870, 206, 872, 198, 190, 182, 174, 166, 874, 442, 387, 384]] #[⟨2, 5, 6, #[]⟩, ⟨9, 646, 647, #[]⟩] 33 2 #[] #[⟨26, 500, 501, #[]⟩, ⟨26, 504, 501, #[]⟩, ⟨26, 506, 501, #[]⟩, ⟨26, 508, 501, #[]⟩, ⟨26, 510, 501, #[]⟩, ⟨26, 512, 501, #[]⟩, ⟨26, 514, 501, #[]⟩, ⟨26, 516, 501, #[]⟩, ⟨10, 84, 85, #[]⟩, ⟨25, 362, 363, #[]⟩, ⟨25, 370, 371, #[]⟩, ⟨25, 374, 375, #[]⟩])
  fields := #[⟨"BINARYSEARCH_THRESHOLD", .int, 26, 0, 0⟩, ⟨"REVERSE_THRESHOLD", .int, 26, 1, 0⟩, ⟨"SHUFFLE_THRESHOLD", .int, 26, 2, 0⟩, ⟨"FILL_THRESHOLD", .int, 26, 3, 0⟩, ⟨"ROTATE_THRESHOLD", .int, 26, 4, 0⟩, ⟨"COPY_THRESHOLD", .int, 26, 5, 0⟩, ⟨"REPLACEALL_THRESHOLD", .int, 26, 6, 0⟩, ⟨"INDEXOFSUBLIST_THRESHOLD", .int, 26, 7, 0⟩, ⟨"r", (.object "java/util/Random"), 10, 8, 0⟩, ⟨"EMPTY_SET", (.object "java/util/Set"), 25, 9, 0⟩, ⟨"EMPTY_LIST", (.object "java/util/List"), 25, 10, 0⟩, ⟨"EMPTY_MAP", (.object "java/util/Map"), 25, 11, 0⟩]
  methods := #[k23m0, k23m1]
  instanceTypes := #[]
  staticTypes := #[.int, .int, .int, .int, .int, .int, .int, .int, (.object "java/util/Random"), (.object "java/util/Set"), (.object "java/util/List"), (.object "java/util/Map")]
  resolved := Array.replicate 933 none
  statics := none }

def pool24 : Array CpInfo := pool [(1, .methodref 2 3), (0, .class_ 4), (0, .nameAndType 5 6), (0, u "java/lang/Object"), (0, u "<init>"), (0, u "()V"), (3, .fieldref 11 12), (0, .class_ 13), (0, .nameAndType 14 15), (0, u "java/util/Collections$UnmodifiableCollection"), (0, u "c"), (0, u "Ljava/util/Collection;"), (1, .class_ 19), (1, u "java/util/Collection"), (20, .interfaceMethodref 17 41), (0, .nameAndType 42 43), (0, u "toString"), (0, u "()Ljava/lang/String;"), (27, .class_ 72), (0, u "java/io/Serializable"), (0, u "serialVersionUID"), (0, u "J"), (5, u "(Ljava/util/Collection;)V"), (51, .class_ 133), (0, u "java/util/Collections")] 2

def k24c0 : Code := ⟨2, 2, jdk_119_method_1_code, #[], #[]⟩
def k24m0 : Method := ⟨"<init>", "(Ljava/util/Collection;)V", ⟨[(.object "java/util/Collection")], none⟩, 0, some k24c0⟩
def k24c1 : Code := ⟨1, 1, jdk_119_method_8_code, #[], #[]⟩
def k24m1 : Method := ⟨"toString", "()Ljava/lang/String;", ⟨[], some (.object "java/lang/String")⟩, 1, some k24c1⟩
/-- java/util/Collections$UnmodifiableCollection -/
def k24 : Class := { plain "java/util/Collections$UnmodifiableCollection" (some 0) with
  accessFlags := 32
  interfaces := #[11, 2]
  cf := some (fileOf pool24 11 #[.nestHost 132] #[⟨0, 5, 80, #[]⟩, ⟨1, 42, 43, #[]⟩] 32 2 #[17, 71] #[⟨26, 73, 74, #[]⟩, ⟨16, 14, 15, #[]⟩])
  fields := #[⟨"serialVersionUID", .long, 26, 0, 0⟩, ⟨"c", (.object "java/util/Collection"), 16, 0, 0⟩]
  methods := #[k24m0, k24m1]
  instanceTypes := #[(.object "java/util/Collection")]
  staticTypes := #[.long]
  resolved := Array.replicate 136 none
  statics := none }

def pool25 : Array CpInfo := pool [(1, .methodref 2 3), (0, .class_ 4), (0, .nameAndType 5 6), (0, u "java/util/Collections$UnmodifiableCollection"), (0, u "<init>"), (0, u "(Ljava/util/Collection;)V"), (0, .fieldref 8 9), (0, .class_ 10), (0, .nameAndType 11 12), (0, u "java/util/Collections$UnmodifiableList"), (0, u "list"), (0, u "Ljava/util/List;"), (1, .class_ 16), (1, u "java/util/List"), (37, u "(Ljava/util/List;)V"), (5, u "serialVersionUID"), (0, u "J"), (59, .class_ 122), (0, u "java/util/Collections")] 4

def k25c0 : Code := ⟨2, 2, jdk_120_method_1_code, #[], #[]⟩
def k25m0 : Method := ⟨"<init>", "(Ljava/util/List;)V", ⟨[(.object "java/util/List")], none⟩, 0, some k25c0⟩
/-- java/util/Collections$UnmodifiableList -/
def k25 : Class := { plain "java/util/Collections$UnmodifiableList" (some 24) with
  accessFlags := 32
  interfaces := #[14]
  cf := some (fileOf pool25 8 #[.nestHost 121] #[⟨0, 5, 54, #[]⟩] 32 2 #[14] #[⟨26, 60, 61, #[]⟩, ⟨16, 11, 12, #[]⟩])
  fields := #[⟨"serialVersionUID", .long, 26, 0, 0⟩, ⟨"list", (.object "java/util/List"), 16, 1, 0⟩]
  methods := #[k25m0]
  instanceTypes := #[(.object "java/util/Collection"), (.object "java/util/List")]
  staticTypes := #[.long]
  resolved := Array.replicate 127 none
  mirror := some 5
  statics := none }

def pool26 : Array CpInfo := pool [(1, .methodref 2 3), (0, .class_ 4), (0, .nameAndType 5 6), (0, u "java/util/Collections$UnmodifiableList"), (0, u "<init>"), (0, u "(Ljava/util/List;)V"), (0, .class_ 8), (0, u "java/util/Collections$UnmodifiableRandomAccessList"), (11, .class_ 21), (0, u "java/util/RandomAccess"), (0, u "serialVersionUID"), (0, u "J"), (23, .class_ 48), (0, u "java/util/Collections")] 3

def k26c0 : Code := ⟨2, 2, jdk_121_method_1_code, #[], #[]⟩
def k26m0 : Method := ⟨"<init>", "(Ljava/util/List;)V", ⟨[(.object "java/util/List")], none⟩, 0, some k26c0⟩
/-- java/util/Collections$UnmodifiableRandomAccessList -/
def k26 : Class := { plain "java/util/Collections$UnmodifiableRandomAccessList" (some 25) with
  accessFlags := 32
  interfaces := #[16]
  cf := some (fileOf pool26 7 #[.nestHost 47] #[⟨0, 5, 6, #[]⟩] 32 2 #[20] #[⟨26, 22, 23, #[]⟩])
  fields := #[⟨"serialVersionUID", .long, 26, 0, 0⟩]
  methods := #[k26m0]
  instanceTypes := #[(.object "java/util/Collection"), (.object "java/util/List")]
  staticTypes := #[.long]
  resolved := Array.replicate 52 none
  mirror := some 6
  statics := none }

def pool27 : Array CpInfo := pool [(1, .class_ 2), (0, u "java/lang/Appendable"), (0, .class_ 4), (0, u "java/lang/Object")] 9

/-- java/lang/Appendable -/
def k27 : Class := { plain "java/lang/Appendable" (some 0) with
  accessFlags := 1537
  interfaces := #[]
  cf := some (fileOf pool27 1 #[] #[] 1537 3 #[] #[])
  fields := #[]
  methods := #[]
  instanceTypes := #[]
  staticTypes := #[]
  resolved := Array.replicate 14 none
  statics := none }

def pool28 : Array CpInfo := pool [(1, .class_ 2), (0, u "java/lang/String"), (0, .methodref 4 5), (0, .class_ 6), (0, .nameAndType 7 8), (0, u "java/lang/Object"), (0, u "<init>"), (0, u "()V"), (1, .class_ 12), (1, u "java/lang/AbstractStringBuilder"), (0, u "EMPTYVALUE"), (0, u "[B"), (0, .fieldref 10 16), (0, .nameAndType 17 14), (0, u "value"), (0, .fieldref 1 19), (0, .nameAndType 20 21), (0, u "COMPACT_STRINGS"), (0, u "Z"), (0, .fieldref 10 23), (0, .nameAndType 24 25), (0, u "coder"), (0, u "B"), (6, .methodref 1 33), (0, .nameAndType 34 35), (0, u "length"), (0, u "()I"), (4, .methodref 1 41), (0, .nameAndType 24 42), (0, u "()B"), (2, u "append"), (0, u "(Ljava/lang/String;)Ljava/lang/AbstractStringBuilder;"), (1, .class_ 49), (0, u "java/lang/CharSequence"), (19, u "(Ljava/lang/String;)V"), (5, u "maybeLatin1"), (3, .fieldref 10 80), (0, .nameAndType 81 82), (0, u "count"), (0, u "I"), (0, .methodref 10 84), (0, .nameAndType 85 86), (0, u "isLatin1"), (0, u "()Z"), (1, .class_ 90), (1, u "java/lang/StringLatin1"), (9, .methodref 10 101), (0, .nameAndType 102 103), (0, u "ensureCapacityInternal"), (0, u "(I)V"), (87, .methodref 88 192), (0, .nameAndType 193 194), (0, u "canEncode"), (0, u "(C)Z"), (13, .methodref 10 209), (0, .nameAndType 210 211), (0, u "putStringAt"), (0, u "(ILjava/lang/String;)V"), (5, u "inflateIfNeededFor"), (2, .nameAndType 221 222), (0, u "getBytes"), (0, u "([BIB)V"), (69, u "(C)Ljava/lang/AbstractStringBuilder;"), (104, .methodref 10 398), (0, .nameAndType 217 69), (0, .methodref 1 220), (3, u "()[B"), (40, .class_ 445), (0, u "java/lang/Appendable"), (106, u "getValue")] 56

def k28m0 : Method := ⟨"<init>", "()V", ⟨[], none⟩, 0, none⟩
def k28c1 : Code := ⟨2, 2, jdk_68_method_2_code, #[], #[]⟩
def k28m1 : Method := ⟨"<init>", "(I)V", ⟨[.int], none⟩, 0, some k28c1⟩
def k28c2 : Code := ⟨1, 1, jdk_68_method_6_code, #[], #[]⟩
def k28m2 : Method := ⟨"length", "()I", ⟨[], some .int⟩, 1, some k28c2⟩
def k28c3 : Code := ⟨4, 3, jdk_68_method_9_code, #[], #[]⟩
def k28m3 : Method := ⟨"ensureCapacityInternal", "(I)V", ⟨[.int], none⟩, 2, some k28c3⟩
def k28c4 : Code := ⟨3, 3, jdk_68_method_22_code, #[], #[]⟩
def k28m4 : Method := ⟨"append", "(Ljava/lang/String;)Ljava/lang/AbstractStringBuilder;", ⟨[(.object "java/lang/String")], some (.object "java/lang/AbstractStringBuilder")⟩, 1, some k28c4⟩
def k28c5 : Code := ⟨5, 2, jdk_68_method_31_code, #[], #[]⟩
def k28m5 : Method := ⟨"append", "(C)Ljava/lang/AbstractStringBuilder;", ⟨[.char], some (.object "java/lang/AbstractStringBuilder")⟩, 1, some k28c5⟩
def k28c6 : Code := ⟨1, 1, jdk_68_method_64_code, #[], #[]⟩
def k28m6 : Method := ⟨"getValue", "()[B", ⟨[], some (.array .byte)⟩, 16, some k28c6⟩
def k28c7 : Code := ⟨1, 1, jdk_68_method_68_code, #[], #[]⟩
def k28m7 : Method := ⟨"isLatin1", "()Z", ⟨[], some .boolean⟩, 16, some k28c7⟩
def k28c8 : Code := ⟨2, 2, jdk_68_method_71_code, #[], #[]⟩
def k28m8 : Method := ⟨"inflateIfNeededFor", "(Ljava/lang/String;)V", ⟨[(.object "java/lang/String")], none⟩, 2, some k28c8⟩
def k28c9 : Code := ⟨4, 3, jdk_68_method_73_code, #[], #[]⟩
def k28m9 : Method := ⟨"putStringAt", "(ILjava/lang/String;)V", ⟨[.int, (.object "java/lang/String")], none⟩, 2, some k28c9⟩
/-- java/lang/AbstractStringBuilder -/
def k28 : Class := { plain "java/lang/AbstractStringBuilder" (some 0) with
  accessFlags := 1056
  interfaces := #[27, 4]
  cf := some (fileOf pool28 10 #[] #[⟨0, 7, 8, #[]⟩, ⟨0, 7, 103, #[]⟩, ⟨1, 34, 35, #[]⟩, ⟨2, 102, 103, #[]⟩, ⟨1, 45, 46, #[]⟩, ⟨1, 45, 292, #[]⟩, ⟨16, 552, 403, #[]⟩, ⟨16, 85, 86, #[]⟩, ⟨2, 217, 69, #[]⟩, ⟨2, 210, 211, #[]⟩] 1056 4 #[444, 48] #[⟨0, 17, 14, #[]⟩, ⟨0, 24, 25, #[]⟩, ⟨0, 75, 21, #[]⟩, ⟨0, 81, 82, #[]⟩, ⟨26, 13, 14, #[]⟩])
  fields := #[⟨"value", (.array .byte), 0, 0, 0⟩, ⟨"coder", .byte, 0, 1, 0⟩, ⟨"maybeLatin1", .boolean, 0, 2, 0⟩, ⟨"count", .int, 0, 3, 0⟩, ⟨"EMPTYVALUE", (.array .byte), 26, 0, 0⟩]
  methods := #[k28m0, k28m1, k28m2, k28m3, k28m4, k28m5, k28m6, k28m7, k28m8, k28m9]
  instanceTypes := #[(.array .byte), .byte, .boolean, .int]
  staticTypes := #[(.array .byte)]
  resolved := Array.replicate 609 none
  statics := none }

def pool29 : Array CpInfo := pool [(1, .methodref 2 3), (0, .class_ 4), (0, .nameAndType 5 6), (0, u "java/lang/AbstractStringBuilder"), (0, u "<init>"), (0, u "(I)V"), (10, .methodref 18 19), (0, .class_ 20), (0, .nameAndType 21 22), (0, u "java/lang/String"), (0, u "valueOf"), (0, u "(Ljava/lang/Object;)Ljava/lang/String;"), (0, .methodref 24 25), (0, .class_ 26), (0, .nameAndType 27 28), (0, u "java/lang/StringBuilder"), (0, u "append"), (0, u "(Ljava/lang/String;)Ljava/lang/StringBuilder;"), (0, .methodref 2 30), (0, .nameAndType 27 31), (0, u "(Ljava/lang/String;)Ljava/lang/AbstractStringBuilder;"), (18, .methodref 2 51), (0, .nameAndType 27 52), (0, u "(C)Ljava/lang/AbstractStringBuilder;"), (84, .methodref 18 138), (0, .nameAndType 5 139), (0, u "(Ljava/lang/StringBuilder;)V"), (5, u "()V"), (10, u "()I"), (129, u "(C)Ljava/lang/StringBuilder;"), (20, u "(Ljava/lang/Object;)Ljava/lang/StringBuilder;"), (35, .methodref 2 344), (0, .nameAndType 345 156), (0, u "length"), (3, .class_ 350), (0, u "java/lang/Appendable"), (0, .class_ 352), (0, u "java/io/Serializable"), (0, .class_ 354), (0, u "java/lang/Comparable"), (0, .class_ 356), (0, u "java/lang/CharSequence"), (0, u "serialVersionUID"), (0, u "J"), (40, u "toString"), (0, u "()Ljava/lang/String;")] 21

def k29c0 : Code := ⟨2, 1, jdk_67_method_1_code, #[], #[]⟩
def k29m0 : Method := ⟨"<init>", "()V", ⟨[], none⟩, 1, some k29c0⟩
def k29c1 : Code := ⟨2, 2, jdk_67_method_6_code, #[], #[]⟩
def k29m1 : Method := ⟨"append", "(Ljava/lang/Object;)Ljava/lang/StringBuilder;", ⟨[(.object "java/lang/Object")], some (.object "java/lang/StringBuilder")⟩, 1, some k29c1⟩
def k29c2 : Code := ⟨2, 2, jdk_67_method_7_code, #[], #[]⟩
def k29m2 : Method := ⟨"append", "(Ljava/lang/String;)Ljava/lang/StringBuilder;", ⟨[(.object "java/lang/String")], some (.object "java/lang/StringBuilder")⟩, 1, some k29c2⟩
def k29c3 : Code := ⟨2, 2, jdk_67_method_14_code, #[], #[]⟩
def k29m3 : Method := ⟨"append", "(C)Ljava/lang/StringBuilder;", ⟨[.char], some (.object "java/lang/StringBuilder")⟩, 1, some k29c3⟩
def k29c4 : Code := ⟨3, 1, jdk_67_method_42_code, #[], #[]⟩
def k29m4 : Method := ⟨"toString", "()Ljava/lang/String;", ⟨[], some (.object "java/lang/String")⟩, 1, some k29c4⟩
def k29c5 : Code := ⟨1, 1, jdk_67_method_93_code, #[], #[]⟩
def k29m5 : Method := ⟨"length", "()I", ⟨[], some .int⟩, 4161, some k29c5⟩
/-- java/lang/StringBuilder -/
def k29 : Class := { plain "java/lang/StringBuilder" (some 28) with
  accessFlags := 49
  interfaces := #[27, 2, 3, 4]
  cf := some (fileOf pool29 24 #[] #[⟨1, 5, 145, #[]⟩, ⟨1, 27, 307, #[]⟩, ⟨1, 27, 28, #[]⟩, ⟨1, 27, 286, #[]⟩, ⟨1, 399, 400, #[]⟩, ⟨4161, 345, 156, #[]⟩] 49 2 #[349, 351, 353, 355] #[⟨24, 357, 358, #[]⟩])
  fields := #[⟨"serialVersionUID", .long, 24, 0, 0⟩]
  methods := #[k29m0, k29m1, k29m2, k29m3, k29m4, k29m5]
  instanceTypes := #[(.array .byte), .byte, .boolean, .int]
  staticTypes := #[.long]
  resolved := Array.replicate 422 none
  statics := none }

def pool30 : Array CpInfo := pool [(16, .class_ 18), (1, u "java/util/Iterator"), (0, u "hasNext"), (0, u "()Z"), (2, u "next"), (0, u "()Ljava/lang/Object;"), (6, .class_ 32), (0, u "java/lang/Object")] 20

def k30m0 : Method := ⟨"hasNext", "()Z", ⟨[], some .boolean⟩, 1025, none⟩
def k30m1 : Method := ⟨"next", "()Ljava/lang/Object;", ⟨[], some (.object "java/lang/Object")⟩, 1025, none⟩
/-- java/util/Iterator -/
def k30 : Class := { plain "java/util/Iterator" (some 0) with
  accessFlags := 1537
  interfaces := #[]
  cf := some (fileOf pool30 16 #[] #[⟨1025, 19, 20, #[]⟩, ⟨1025, 23, 24, #[]⟩] 1537 31 #[] #[])
  fields := #[]
  methods := #[k30m0, k30m1]
  instanceTypes := #[]
  staticTypes := #[]
  resolved := Array.replicate 53 none
  statics := none }

def pool31 : Array CpInfo := pool [(1, .fieldref 2 3), (0, .class_ 4), (0, .nameAndType 5 6), (0, u "java/util/ArrayList$Itr"), (0, u "this$0"), (0, u "Ljava/util/ArrayList;"), (0, .methodref 8 9), (0, .class_ 10), (0, .nameAndType 11 12), (0, u "java/lang/Object"), (0, u "<init>"), (0, u "()V"), (0, .fieldref 2 14), (0, .nameAndType 15 16), (0, u "lastRet"), (0, u "I"), (0, .fieldref 18 19), (0, .class_ 20), (0, .nameAndType 21 16), (0, u "java/util/ArrayList"), (0, u "modCount"), (0, .fieldref 2 23), (0, .nameAndType 24 16), (0, u "expectedModCount"), (0, .fieldref 2 26), (0, .nameAndType 27 16), (0, u "cursor"), (0, .fieldref 18 29), (0, .nameAndType 30 16), (0, u "size"), (0, .methodref 2 32), (0, .nameAndType 33 12), (0, u "checkForComodification"), (3, .fieldref 18 38), (0, .nameAndType 39 40), (0, u "elementData"), (0, u "[Ljava/lang/Object;"), (28, .class_ 70), (0, u "java/util/Iterator"), (0, u "(Ljava/util/ArrayList;)V"), (8, u "hasNext"), (0, u "()Z"), (1, u "next"), (0, u "()Ljava/lang/Object;")] 19

def k31c0 : Code := ⟨2, 2, jdk_49_method_1_code, #[], #[]⟩
def k31m0 : Method := ⟨"<init>", "(Ljava/util/ArrayList;)V", ⟨[(.object "java/util/ArrayList")], none⟩, 0, some k31c0⟩
def k31c1 : Code := ⟨2, 1, jdk_49_method_2_code, #[], #[]⟩
def k31m1 : Method := ⟨"hasNext", "()Z", ⟨[], some .boolean⟩, 1, some k31c1⟩
def k31c2 : Code := ⟨4, 3, jdk_49_method_3_code, #[], #[]⟩
def k31m2 : Method := ⟨"next", "()Ljava/lang/Object;", ⟨[], some (.object "java/lang/Object")⟩, 1, some k31c2⟩
def k31c3 : Code := ⟨2, 1, jdk_49_method_6_code, #[], #[]⟩
def k31m3 : Method := ⟨"checkForComodification", "()V", ⟨[], none⟩, 16, some k31c3⟩
/-- java/util/ArrayList$Itr -/
def k31 : Class := { plain "java/util/ArrayList$Itr" (some 0) with
  accessFlags := 32
  interfaces := #[30]
  cf := some (fileOf pool31 2 #[.nestHost 18] #[⟨0, 11, 71, #[]⟩, ⟨1, 80, 81, #[]⟩, ⟨1, 83, 84, #[]⟩, ⟨16, 33, 12, #[]⟩] 32 8 #[69] #[⟨0, 27, 16, #[]⟩, ⟨0, 15, 16, #[]⟩, ⟨0, 24, 16, #[]⟩, ⟨4112, 5, 6, #[]⟩])
  fields := #[⟨"cursor", .int, 0, 0, 0⟩, ⟨"lastRet", .int, 0, 1, 0⟩, ⟨"expectedModCount", .int, 0, 2, 0⟩, ⟨"this$0", (.object "java/util/ArrayList"), 4112, 3, 0⟩]
  methods := #[k31m0, k31m1, k31m2, k31m3]
  instanceTypes := #[.int, .int, .int, (.object "java/util/ArrayList")]
  staticTypes := #[]
  resolved := Array.replicate 104 none
  statics := none }

def pool32 : Array CpInfo := pool [(2, .class_ 4), (1, u "java/lang/Object"), (0, u "<init>"), (0, u "()V"), (17, .class_ 26), (1, u "jdk/internal/util/Preconditions"), (28, .class_ 56), (0, u "jdk/internal/util/Preconditions$4"), (57, .class_ 115), (0, u "jdk/internal/util/Preconditions$1"), (7, u "SIOOBE_FORMATTER"), (0, u "Ljava/util/function/BiFunction;"), (0, .class_ 126), (0, u "jdk/internal/util/Preconditions$2"), (3, u "AIOOBE_FORMATTER"), (0, .class_ 132), (0, u "jdk/internal/util/Preconditions$3"), (3, u "IOOBE_FORMATTER")] 57

def k32m0 : Method := ⟨"<init>", "()V", ⟨[], none⟩, 1, none⟩
/-- jdk/internal/util/Preconditions -/
def k32 : Class := { plain "jdk/internal/util/Preconditions" (some 0) with
  accessFlags := 33
  interfaces := #[]
  cf := some (fileOf pool32 24 #[.nestMembers #[55, 131, 125, 114]] #[⟨1, 5, 6, #[]⟩] 33 2 #[] #[⟨25, 123, 124, #[]⟩, ⟨25, 130, 124, #[]⟩, ⟨25, 136, 124, #[]⟩])
  fields := #[⟨"SIOOBE_FORMATTER", (.object "java/util/function/BiFunction"), 25, 0, 0⟩, ⟨"AIOOBE_FORMATTER", (.object "java/util/function/BiFunction"), 25, 1, 0⟩, ⟨"IOOBE_FORMATTER", (.object "java/util/function/BiFunction"), 25, 2, 0⟩]
  methods := #[k32m0]
  instanceTypes := #[]
  staticTypes := #[(.object "java/util/function/BiFunction"), (.object "java/util/function/BiFunction"), (.object "java/util/function/BiFunction")]
  resolved := Array.replicate 194 none
  statics := some 2 }

def pool33 : Array CpInfo := pool [(9, u "<init>"), (6, .class_ 18), (1, u "java/lang/Object"), (0, u "()V"), (1, .class_ 23), (1, u "jdk/internal/util/ArraysSupport"), (0, u "LOG2_ARRAY_LONG_INDEX_SCALE"), (0, u "I"), (2, u "U"), (0, u "Ljdk/internal/misc/Unsafe;"), (8, u "BIG_ENDIAN"), (0, u "Z"), (8, u "LOG2_BYTE_BIT_SIZE"), (4, u "LOG2_ARRAY_INT_INDEX_SCALE"), (54, u "JLA"), (0, u "Ljdk/internal/access/JavaLangAccess;"), (11, u "LOG2_ARRAY_BOOLEAN_INDEX_SCALE"), (9, u "LOG2_ARRAY_BYTE_INDEX_SCALE"), (5, u "LOG2_ARRAY_CHAR_INDEX_SCALE"), (5, u "LOG2_ARRAY_SHORT_INDEX_SCALE"), (18, u "LOG2_ARRAY_FLOAT_INDEX_SCALE"), (24, u "LOG2_ARRAY_DOUBLE_INDEX_SCALE"), (89, u "T_BOOLEAN"), (2, u "T_CHAR"), (1, u "T_FLOAT"), (1, u "T_DOUBLE"), (1, u "T_BYTE"), (1, u "T_SHORT"), (1, u "T_INT"), (1, u "T_LONG"), (1, u "SOFT_MAX_ARRAY_LENGTH")] 83

def k33m0 : Method := ⟨"<init>", "()V", ⟨[], none⟩, 2, none⟩
/-- jdk/internal/util/ArraysSupport -/
def k33 : Class := { plain "jdk/internal/util/ArraysSupport" (some 0) with
  accessFlags := 33
  interfaces := #[]
  cf := some (fileOf pool33 21 #[] #[⟨2, 9, 19, #[]⟩] 33 16 #[] #[⟨24, 28, 29, #[]⟩, ⟨26, 38, 39, #[]⟩, ⟨25, 121, 25, #[]⟩, ⟨25, 131, 25, #[]⟩, ⟨25, 137, 25, #[]⟩, ⟨25, 143, 25, #[]⟩, ⟨25, 53, 25, #[]⟩, ⟨25, 24, 25, #[]⟩, ⟨25, 162, 25, #[]⟩, ⟨25, 187, 25, #[]⟩, ⟨26, 48, 25, #[]⟩, ⟨25, 277, 25, #[]⟩, ⟨25, 280, 25, #[]⟩, ⟨25, 282, 25, #[]⟩, ⟨25, 284, 25, #[]⟩, ⟨25, 286, 25, #[]⟩, ⟨25, 288, 25, #[]⟩, ⟨25, 290, 25, #[]⟩, ⟨25, 292, 25, #[]⟩, ⟨26, 108, 109, #[]⟩, ⟨25, 294, 25, #[]⟩])
  fields := #[⟨"U", (.object "jdk/internal/misc/Unsafe"), 24, 0, 0⟩, ⟨"BIG_ENDIAN", .boolean, 26, 1, 0⟩, ⟨"LOG2_ARRAY_BOOLEAN_INDEX_SCALE", .int, 25, 2, 0⟩, ⟨"LOG2_ARRAY_BYTE_INDEX_SCALE", .int, 25, 3, 0⟩, ⟨"LOG2_ARRAY_CHAR_INDEX_SCALE", .int, 25, 4, 0⟩, ⟨"LOG2_ARRAY_SHORT_INDEX_SCALE", .int, 25, 5, 0⟩, ⟨"LOG2_ARRAY_INT_INDEX_SCALE", .int, 25, 6, 0⟩, ⟨"LOG2_ARRAY_LONG_INDEX_SCALE", .int, 25, 7, 0⟩, ⟨"LOG2_ARRAY_FLOAT_INDEX_SCALE", .int, 25, 8, 0⟩, ⟨"LOG2_ARRAY_DOUBLE_INDEX_SCALE", .int, 25, 9, 0⟩, ⟨"LOG2_BYTE_BIT_SIZE", .int, 26, 10, 0⟩, ⟨"T_BOOLEAN", .int, 25, 11, 0⟩, ⟨"T_CHAR", .int, 25, 12, 0⟩, ⟨"T_FLOAT", .int, 25, 13, 0⟩, ⟨"T_DOUBLE", .int, 25, 14, 0⟩, ⟨"T_BYTE", .int, 25, 15, 0⟩, ⟨"T_SHORT", .int, 25, 16, 0⟩, ⟨"T_INT", .int, 25, 17, 0⟩, ⟨"T_LONG", .int, 25, 18, 0⟩, ⟨"JLA", (.object "jdk/internal/access/JavaLangAccess"), 26, 19, 0⟩, ⟨"SOFT_MAX_ARRAY_LENGTH", .int, 25, 20, 0⟩]
  methods := #[k33m0]
  instanceTypes := #[]
  staticTypes := #[(.object "jdk/internal/misc/Unsafe"), .boolean, .int, .int, .int, .int, .int, .int, .int, .int, .int, .int, .int, .int, .int, .int, .int, .int, .int, (.object "jdk/internal/access/JavaLangAccess"), .int]
  resolved := Array.replicate 378 none
  statics := none }

def pool34 : Array CpInfo := pool [(1, u "java/lang/Class"), (0, .class_ 1), (0, u "java/lang/Object"), (0, .class_ 3)] 0

/-- java/lang/Class -/
def k34 : Class := { plain "java/lang/Class" (some 0) with
  accessFlags := 49
  interfaces := #[]
  cf := some (fileOf pool34 2 #[] #[] 49 4 #[] #[])
  fields := #[]
  methods := #[]
  instanceTypes := #[]
  staticTypes := #[]
  resolved := Array.replicate 5 none
  statics := none }

/-- the primitive byte -/
def k35 : Class := { plain "byte" none with kind := .primitive 'B', accessFlags := 0x411 }
/-- [B -/
def k36 : Class := { plain "[B" (some 0) with kind := .array 35 .byte, interfaces := #[17, 2], accessFlags := 1041 }

/-- the primitive char -/
def k37 : Class := { plain "char" none with kind := .primitive 'C', accessFlags := 0x411 }
/-- [C -/
def k38 : Class := { plain "[C" (some 0) with kind := .array 37 .char, interfaces := #[17, 2], accessFlags := 1041 }

/-- the primitive int -/
def k39 : Class := { plain "int" none with kind := .primitive 'I', accessFlags := 0x411 }
/-- [I -/
def k40 : Class := { plain "[I" (some 0) with kind := .array 39 .int, interfaces := #[17, 2], accessFlags := 1041 }

/-- [Ljava/lang/Object; -/
def k41 : Class := { plain "[Ljava/lang/Object;" (some 0) with kind := .array 0 (.object "java/lang/Object"), interfaces := #[17, 2], accessFlags := 1041, mirror := some 3 }

def heap : Heap := #[{ cls := 7, slots := #[.long 0, .int 1, .null, .int 0, .null, .int 0, .int 0], vm := .statics 7 },
  { cls := 18, slots := #[.long 0, .int 0, .ref 7, .ref 8], vm := .statics 18 },
  { cls := 32, slots := #[.null, .null, .null], vm := .statics 32 },
  { cls := 34, slots := #[], vm := .mirror 41 },
  { cls := 34, slots := #[], vm := .mirror 18 },
  { cls := 34, slots := #[], vm := .mirror 25 },
  { cls := 34, slots := #[], vm := .mirror 26 },
  { cls := 41, slots := #[], vm := .none },
  { cls := 41, slots := #[], vm := .none }]
def classes : Array Class := #[k0, k1, k2, k3, k4, k5, k6, k7, k8, k9, k10, k11, k12, k13, k14, k15, k16, k17, k18, k19, k20, k21, k22, k23, k24, k25, k26, k27, k28, k29, k30, k31, k32, k33, k34, k35, k36, k37, k38, k39, k40, k41]
def interned : List (Array UInt16 × Addr) := []
def slotsUsed : Nat := 14
def theMethod : MethodId := ⟨1, 1⟩
def args0 : Array Value := #[.int 65, .int 66, .int 67, .int 68, .int 2]
def aboutOver (below : List Frame) : State where
  vm := { classes := classes, interned := interned.toArray }
  heap := heap
  slotsUsed := slotsUsed
  threads := #[{ frames := .invoking theMethod args0 :: below }]
def below0 : List Frame := [.native { method := ⟨0, 0⟩, args := #[] }]
def about1 : State := aboutOver below0
def p0 : Program := .bare "" "" ""
def e0 : Env := launch0.env 0 0 0
theorem w_frames : about1.frames = Frame.invoking theMethod args0 :: below0 := rfl
set_option maxRecDepth 65536 in
theorem w_args : argsFit about1.vm theMethod args0 = true := by decide +kernel
set_option maxRecDepth 65536 in
theorem w_heap : heapFits about1 = true := by decide +kernel
set_option maxRecDepth 65536 in
theorem w_runnable : about1.curStatus? = some .runnable := by decide +kernel
set_option maxRecDepth 65536 in
theorem w_alone : about1.alone = true := by decide +kernel
set_option maxRecDepth 65536 in
theorem w_named : about1.methodNamed? x = some theMethod := by decide +kernel
set_option maxRecDepth 65536 in
theorem w_hears : about1.hears theMethod below0 = true := by decide +kernel
set_option maxRecDepth 65536 in
theorem w_ripe : about1.ripe theMethod args0 below0 = true := by decide +kernel
theorem w_running : about1.status = .running := rfl
set_option maxRecDepth 65536 in
theorem w_room : about1.hasRoom e0.platform room_1 = true :=
  launch0.hasRoom_least _ room_1 (by decide +kernel) (by decide +kernel) (by decide +kernel) (by decide +kernel) (by decide +kernel) (by decide +kernel)
theorem allAtoms_all (ts : List Jvm.Cond) (a : Array Jvm.Value) (st : Jvm.State) : (allAtoms ts).before a st = ts.all (fun c => c.before a st) := by
  induction ts with
  | nil => rfl
  | cons c t ih =>
    show (Jvm.Cond.and c (allAtoms t)).before a st = _
    rw [Jvm.Cond.before_and, ih, List.all_cons]
def words1 : List Jvm.Cond := Jvm.Cond.code x code maxLocals ret :: tables_1
/-- a 'code' word, met by the world's own term for the bytes: nothing is compared byte by byte -/
theorem code_word {y : MethodName} {bytes : ByteArray} {mx : Nat} {rt : Option FieldType} {a : Array Value} {s : State} {m : MethodId} {meth : Method} {c : Code} (h1 : s.methodNamed? y = some m) (h2 : s.vm.method? m = some meth) (h3 : meth.code = some c) (h4 : c.code = bytes)
    (h5 : (c.maxLocals == mx && c.exceptionTable.isEmpty && decide (c.maxStack ≤ mostOperands) && decide (meth.sig.returnType = rt) && !meth.locks && decide (parseMethodDescriptor y.desc = some meth.sig)) = true) : (Jvm.Cond.code y bytes mx rt).before a s = true := by
  simp only [Bool.and_eq_true, beq_iff_eq, Bool.not_eq_true', decide_eq_true_eq] at h5
  obtain ⟨⟨⟨⟨⟨g1, g2⟩, g3⟩, g4⟩, g5⟩, g6⟩ := h5
  simp [Cond.before, Cond.holds, Cond.value, h1, h2, h3, h4, g1, g2, g3, g4, g5, g6]
def isCode : Jvm.Cond → Bool
  | .code _ _ _ _ => true
  | _ => false
theorem all_split {L : List Jvm.Cond} {P : Jvm.Cond → Bool} (h1 : L.all (fun c => isCode c || P c) = true) (h2 : ∀ c ∈ L.filter isCode, P c = true) : L.all P = true := by
  refine List.all_eq_true.mpr fun c hc => ?_
  have h := List.all_eq_true.mp h1 c hc
  rcases Bool.eq_false_or_eq_true (isCode c) with hi | hi
  · exact h2 c (List.mem_filter.mpr ⟨hc, hi⟩)
  · simpa [hi] using h
set_option maxRecDepth 65536 in
theorem w_c0 : (Jvm.Cond.code x code maxLocals ret).before args0 about1 = true := code_word (m := ⟨1, 1⟩) (meth := k1m1) (c := k1c1) (by decide +kernel) rfl rfl rfl (by decide +kernel)
set_option maxRecDepth 65536 in
theorem w_c1 : (Jvm.Cond.code ({ cls := "java/lang/String", name := "valueOf", desc := "(C)Ljava/lang/String;" } : Jvm.MethodName) jdk_42_method_139_code (1 : Nat) (Option.some (Jvm.ClassFile.FieldType.object "java/lang/String"))).before args0 about1 = true := code_word (m := ⟨7, 7⟩) (meth := k7m7) (c := k7c7) (by decide +kernel) rfl rfl rfl (by decide +kernel)
set_option maxRecDepth 65536 in
theorem w_c2 : (Jvm.Cond.code ({ cls := "java/lang/StringLatin1", name := "canEncode", desc := "(C)Z" } : Jvm.MethodName) jdk_43_method_3_code (1 : Nat) (Option.some Jvm.ClassFile.FieldType.boolean)).before args0 about1 = true := code_word (m := ⟨8, 1⟩) (meth := k8m1) (c := k8c1) (by decide +kernel) rfl rfl rfl (by decide +kernel)
set_option maxRecDepth 65536 in
theorem w_c3 : (Jvm.Cond.code ({ cls := "java/lang/StringLatin1", name := "toBytes", desc := "(C)[B" } : Jvm.MethodName) jdk_43_method_46_code (1 : Nat) (Option.some (Jvm.ClassFile.FieldType.array Jvm.ClassFile.FieldType.byte))).before args0 about1 = true := code_word (m := ⟨8, 3⟩) (meth := k8m3) (c := k8c3) (by decide +kernel) rfl rfl rfl (by decide +kernel)
set_option maxRecDepth 65536 in
theorem w_c4 : (Jvm.Cond.code ({ cls := "java/lang/String", name := "<init>", desc := "([BB)V" } : Jvm.MethodName) jdk_42_method_151_code (3 : Nat) (Option.none : Option Jvm.ClassFile.FieldType)).before args0 about1 = true := code_word (m := ⟨7, 11⟩) (meth := k7m11) (c := k7c11) (by decide +kernel) rfl rfl rfl (by decide +kernel)
set_option maxRecDepth 65536 in
theorem w_c5 : (Jvm.Cond.code ({ cls := "java/lang/Object", name := "<init>", desc := "()V" } : Jvm.MethodName) object_method_1_code (1 : Nat) (Option.none : Option Jvm.ClassFile.FieldType)).before args0 about1 = true := code_word (m := ⟨0, 0⟩) (meth := k0m0) (c := k0c0) (by decide +kernel) rfl rfl rfl (by decide +kernel)
set_option maxRecDepth 65536 in
theorem w_c6 : (Jvm.Cond.code ({ cls := "com/example/row_lease/rowlease/model/VersionGroupToStringPinLaw", name := "expected", desc := "(ICCCC)Ljava/lang/String;" } : Jvm.MethodName) method_3_code (5 : Nat) (Option.some (Jvm.ClassFile.FieldType.object "java/lang/String"))).before args0 about1 = true := code_word (m := ⟨1, 2⟩) (meth := k1m2) (c := k1c2) (by decide +kernel) rfl rfl rfl (by decide +kernel)
set_option maxRecDepth 65536 in
theorem w_c7 : (Jvm.Cond.code ({ cls := "java/lang/String", name := "<init>", desc := "([C)V" } : Jvm.MethodName) jdk_42_method_3_code (2 : Nat) (Option.none : Option Jvm.ClassFile.FieldType)).before args0 about1 = true := code_word (m := ⟨7, 1⟩) (meth := k7m1) (c := k7c1) (by decide +kernel) rfl rfl rfl (by decide +kernel)
set_option maxRecDepth 65536 in
theorem w_c8 : (Jvm.Cond.code ({ cls := "java/lang/String", name := "<init>", desc := "([CIILjava/lang/Void;)V" } : Jvm.MethodName) jdk_42_method_149_code (6 : Nat) (Option.none : Option Jvm.ClassFile.FieldType)).before args0 about1 = true := code_word (m := ⟨7, 9⟩) (meth := k7m9) (c := k7c9) (by decide +kernel) rfl rfl rfl (by decide +kernel)
set_option maxRecDepth 65536 in
theorem w_c9 : (Jvm.Cond.code ({ cls := "java/lang/StringUTF16", name := "compress", desc := "([CII)[B" } : Jvm.MethodName) jdk_52_method_16_code (6 : Nat) (Option.some (Jvm.ClassFile.FieldType.array Jvm.ClassFile.FieldType.byte))).before args0 about1 = true := code_word (m := ⟨9, 2⟩) (meth := k9m2) (c := k9c2) (by decide +kernel) rfl rfl rfl (by decide +kernel)
set_option maxRecDepth 65536 in
theorem w_c10 : (Jvm.Cond.code ({ cls := "java/lang/StringUTF16", name := "compress", desc := "([CI[BII)I" } : Jvm.MethodName) jdk_52_method_21_code (7 : Nat) (Option.some Jvm.ClassFile.FieldType.int)).before args0 about1 = true := code_word (m := ⟨9, 3⟩) (meth := k9m3) (c := k9c3) (by decide +kernel) rfl rfl rfl (by decide +kernel)
set_option maxRecDepth 65536 in
theorem w_c11 : (Jvm.Cond.code ({ cls := "java/lang/StringUTF16", name := "coderFromArrayLen", desc := "([BI)B" } : Jvm.MethodName) jdk_52_method_15_code (2 : Nat) (Option.some Jvm.ClassFile.FieldType.byte)).before args0 about1 = true := code_word (m := ⟨9, 1⟩) (meth := k9m1) (c := k9c1) (by decide +kernel) rfl rfl rfl (by decide +kernel)
set_option maxRecDepth 65536 in
theorem w_c12 : (Jvm.Cond.code ({ cls := "java/util/ArrayList", name := "<init>", desc := "()V" } : Jvm.MethodName) jdk_38_method_2_code (1 : Nat) (Option.none : Option Jvm.ClassFile.FieldType)).before args0 about1 = true := code_word (m := ⟨18, 0⟩) (meth := k18m0) (c := k18c0) (by decide +kernel) rfl rfl rfl (by decide +kernel)
set_option maxRecDepth 65536 in
theorem w_c13 : (Jvm.Cond.code ({ cls := "java/util/AbstractList", name := "<init>", desc := "()V" } : Jvm.MethodName) jdk_39_method_1_code (1 : Nat) (Option.none : Option Jvm.ClassFile.FieldType)).before args0 about1 = true := code_word (m := ⟨15, 0⟩) (meth := k15m0) (c := k15c0) (by decide +kernel) rfl rfl rfl (by decide +kernel)
set_option maxRecDepth 65536 in
theorem w_c14 : (Jvm.Cond.code ({ cls := "java/util/AbstractCollection", name := "<init>", desc := "()V" } : Jvm.MethodName) jdk_22_method_1_code (1 : Nat) (Option.none : Option Jvm.ClassFile.FieldType)).before args0 about1 = true := code_word (m := ⟨12, 0⟩) (meth := k12m0) (c := k12c0) (by decide +kernel) rfl rfl rfl (by decide +kernel)
set_option maxRecDepth 65536 in
theorem w_c15 : (Jvm.Cond.code ({ cls := "com/example/row_lease/rowlease/model/VersionGroup", name := "<init>", desc := "(Ljava/lang/String;Ljava/util/List;)V" } : Jvm.MethodName) prog_25_method_1_code (3 : Nat) (Option.none : Option Jvm.ClassFile.FieldType)).before args0 about1 = true := code_word (m := ⟨19, 0⟩) (meth := k19m0) (c := k19c0) (by decide +kernel) rfl rfl rfl (by decide +kernel)
set_option maxRecDepth 65536 in
theorem w_c16 : (Jvm.Cond.code ({ cls := "java/util/ArrayList", name := "<init>", desc := "(Ljava/util/Collection;)V" } : Jvm.MethodName) jdk_38_method_3_code (3 : Nat) (Option.none : Option Jvm.ClassFile.FieldType)).before args0 about1 = true := code_word (m := ⟨18, 1⟩) (meth := k18m1) (c := k18c1) (by decide +kernel) rfl rfl rfl (by decide +kernel)
set_option maxRecDepth 65536 in
theorem w_c17 : (Jvm.Cond.code ({ cls := "java/util/ArrayList", name := "toArray", desc := "()[Ljava/lang/Object;" } : Jvm.MethodName) jdk_38_method_16_code (1 : Nat) (Option.some (Jvm.ClassFile.FieldType.array (Jvm.ClassFile.FieldType.object "java/lang/Object")))).before args0 about1 = true := code_word (m := ⟨18, 4⟩) (meth := k18m4) (c := k18c4) (by decide +kernel) rfl rfl rfl (by decide +kernel)
set_option maxRecDepth 65536 in
theorem w_c18 : (Jvm.Cond.code ({ cls := "java/util/Arrays", name := "copyOf", desc := "([Ljava/lang/Object;I)[Ljava/lang/Object;" } : Jvm.MethodName) jdk_65_method_119_code (2 : Nat) (Option.some (Jvm.ClassFile.FieldType.array (Jvm.ClassFile.FieldType.object "java/lang/Object")))).before args0 about1 = true := code_word (m := ⟨20, 1⟩) (meth := k20m1) (c := k20c1) (by decide +kernel) rfl rfl rfl (by decide +kernel)
set_option maxRecDepth 65536 in
theorem w_c19 : (Jvm.Cond.code ({ cls := "java/util/Arrays", name := "copyOf", desc := "([Ljava/lang/Object;ILjava/lang/Class;)[Ljava/lang/Object;" } : Jvm.MethodName) jdk_65_method_120_code (4 : Nat) (Option.some (Jvm.ClassFile.FieldType.array (Jvm.ClassFile.FieldType.object "java/lang/Object")))).before args0 about1 = true := code_word (m := ⟨20, 2⟩) (meth := k20m2) (c := k20c2) (by decide +kernel) rfl rfl rfl (by decide +kernel)
set_option maxRecDepth 65536 in
theorem w_c20 : (Jvm.Cond.code ({ cls := "java/lang/Math", name := "min", desc := "(II)I" } : Jvm.MethodName) jdk_29_method_69_code (2 : Nat) (Option.some Jvm.ClassFile.FieldType.int)).before args0 about1 = true := code_word (m := ⟨21, 2⟩) (meth := k21m2) (c := k21c2) (by decide +kernel) rfl rfl rfl (by decide +kernel)
set_option maxRecDepth 65536 in
theorem w_c21 : (Jvm.Cond.code ({ cls := "java/util/Collections", name := "unmodifiableList", desc := "(Ljava/util/List;)Ljava/util/List;" } : Jvm.MethodName) jdk_79_method_35_code (1 : Nat) (Option.some (Jvm.ClassFile.FieldType.object "java/util/List"))).before args0 about1 = true := code_word (m := ⟨23, 1⟩) (meth := k23m1) (c := k23c1) (by decide +kernel) rfl rfl rfl (by decide +kernel)
set_option maxRecDepth 65536 in
theorem w_c22 : (Jvm.Cond.code ({ cls := "java/util/Collections$UnmodifiableRandomAccessList", name := "<init>", desc := "(Ljava/util/List;)V" } : Jvm.MethodName) jdk_121_method_1_code (2 : Nat) (Option.none : Option Jvm.ClassFile.FieldType)).before args0 about1 = true := code_word (m := ⟨26, 0⟩) (meth := k26m0) (c := k26c0) (by decide +kernel) rfl rfl rfl (by decide +kernel)
set_option maxRecDepth 65536 in
theorem w_c23 : (Jvm.Cond.code ({ cls := "java/util/Collections$UnmodifiableList", name := "<init>", desc := "(Ljava/util/List;)V" } : Jvm.MethodName) jdk_120_method_1_code (2 : Nat) (Option.none : Option Jvm.ClassFile.FieldType)).before args0 about1 = true := code_word (m := ⟨25, 0⟩) (meth := k25m0) (c := k25c0) (by decide +kernel) rfl rfl rfl (by decide +kernel)
set_option maxRecDepth 65536 in
theorem w_c24 : (Jvm.Cond.code ({ cls := "java/util/Collections$UnmodifiableCollection", name := "<init>", desc := "(Ljava/util/Collection;)V" } : Jvm.MethodName) jdk_119_method_1_code (2 : Nat) (Option.none : Option Jvm.ClassFile.FieldType)).before args0 about1 = true := code_word (m := ⟨24, 0⟩) (meth := k24m0) (c := k24c0) (by decide +kernel) rfl rfl rfl (by decide +kernel)
set_option maxRecDepth 65536 in
theorem w_c25 : (Jvm.Cond.code ({ cls := "com/example/row_lease/rowlease/model/VersionGroup", name := "toString", desc := "()Ljava/lang/String;" } : Jvm.MethodName) prog_25_method_6_code (1 : Nat) (Option.some (Jvm.ClassFile.FieldType.object "java/lang/String"))).before args0 about1 = true := code_word (m := ⟨19, 1⟩) (meth := k19m1) (c := k19c1) (by decide +kernel) rfl rfl rfl (by decide +kernel)
set_option maxRecDepth 65536 in
theorem w_c26 : (Jvm.Cond.code ({ cls := "java/lang/StringBuilder", name := "<init>", desc := "()V" } : Jvm.MethodName) jdk_67_method_1_code (1 : Nat) (Option.none : Option Jvm.ClassFile.FieldType)).before args0 about1 = true := code_word (m := ⟨29, 0⟩) (meth := k29m0) (c := k29c0) (by decide +kernel) rfl rfl rfl (by decide +kernel)
set_option maxRecDepth 65536 in
theorem w_c27 : (Jvm.Cond.code ({ cls := "java/lang/AbstractStringBuilder", name := "<init>", desc := "(I)V" } : Jvm.MethodName) jdk_68_method_2_code (2 : Nat) (Option.none : Option Jvm.ClassFile.FieldType)).before args0 about1 = true := code_word (m := ⟨28, 1⟩) (meth := k28m1) (c := k28c1) (by decide +kernel) rfl rfl rfl (by decide +kernel)
set_option maxRecDepth 65536 in
theorem w_c28 : (Jvm.Cond.code ({ cls := "java/lang/StringBuilder", name := "append", desc := "(Ljava/lang/String;)Ljava/lang/StringBuilder;" } : Jvm.MethodName) jdk_67_method_7_code (2 : Nat) (Option.some (Jvm.ClassFile.FieldType.object "java/lang/StringBuilder"))).before args0 about1 = true := code_word (m := ⟨29, 2⟩) (meth := k29m2) (c := k29c2) (by decide +kernel) rfl rfl rfl (by decide +kernel)
set_option maxRecDepth 65536 in
theorem w_c29 : (Jvm.Cond.code ({ cls := "java/lang/AbstractStringBuilder", name := "append", desc := "(Ljava/lang/String;)Ljava/lang/AbstractStringBuilder;" } : Jvm.MethodName) jdk_68_method_22_code (3 : Nat) (Option.some (Jvm.ClassFile.FieldType.object "java/lang/AbstractStringBuilder"))).before args0 about1 = true := code_word (m := ⟨28, 4⟩) (meth := k28m4) (c := k28c4) (by decide +kernel) rfl rfl rfl (by decide +kernel)
set_option maxRecDepth 65536 in
theorem w_c30 : (Jvm.Cond.code ({ cls := "java/lang/String", name := "length", desc := "()I" } : Jvm.MethodName) jdk_42_method_54_code (1 : Nat) (Option.some Jvm.ClassFile.FieldType.int)).before args0 about1 = true := code_word (m := ⟨7, 3⟩) (meth := k7m3) (c := k7c3) (by decide +kernel) rfl rfl rfl (by decide +kernel)
set_option maxRecDepth 65536 in
theorem w_c31 : (Jvm.Cond.code ({ cls := "java/lang/String", name := "coder", desc := "()B" } : Jvm.MethodName) jdk_42_method_152_code (1 : Nat) (Option.some Jvm.ClassFile.FieldType.byte)).before args0 about1 = true := code_word (m := ⟨7, 12⟩) (meth := k7m12) (c := k7c12) (by decide +kernel) rfl rfl rfl (by decide +kernel)
set_option maxRecDepth 65536 in
theorem w_c32 : (Jvm.Cond.code ({ cls := "java/lang/AbstractStringBuilder", name := "ensureCapacityInternal", desc := "(I)V" } : Jvm.MethodName) jdk_68_method_9_code (3 : Nat) (Option.none : Option Jvm.ClassFile.FieldType)).before args0 about1 = true := code_word (m := ⟨28, 3⟩) (meth := k28m3) (c := k28c3) (by decide +kernel) rfl rfl rfl (by decide +kernel)
set_option maxRecDepth 65536 in
theorem w_c33 : (Jvm.Cond.code ({ cls := "java/lang/AbstractStringBuilder", name := "putStringAt", desc := "(ILjava/lang/String;)V" } : Jvm.MethodName) jdk_68_method_73_code (3 : Nat) (Option.none : Option Jvm.ClassFile.FieldType)).before args0 about1 = true := code_word (m := ⟨28, 9⟩) (meth := k28m9) (c := k28c9) (by decide +kernel) rfl rfl rfl (by decide +kernel)
set_option maxRecDepth 65536 in
theorem w_c34 : (Jvm.Cond.code ({ cls := "java/lang/AbstractStringBuilder", name := "inflateIfNeededFor", desc := "(Ljava/lang/String;)V" } : Jvm.MethodName) jdk_68_method_71_code (2 : Nat) (Option.none : Option Jvm.ClassFile.FieldType)).before args0 about1 = true := code_word (m := ⟨28, 8⟩) (meth := k28m8) (c := k28c8) (by decide +kernel) rfl rfl rfl (by decide +kernel)
set_option maxRecDepth 65536 in
theorem w_c35 : (Jvm.Cond.code ({ cls := "java/lang/String", name := "getBytes", desc := "([BIB)V" } : Jvm.MethodName) jdk_42_method_147_code (4 : Nat) (Option.none : Option Jvm.ClassFile.FieldType)).before args0 about1 = true := code_word (m := ⟨7, 8⟩) (meth := k7m8) (c := k7c8) (by decide +kernel) rfl rfl rfl (by decide +kernel)
set_option maxRecDepth 65536 in
theorem w_c36 : (Jvm.Cond.code ({ cls := "java/lang/StringBuilder", name := "append", desc := "(Ljava/lang/Object;)Ljava/lang/StringBuilder;" } : Jvm.MethodName) jdk_67_method_6_code (2 : Nat) (Option.some (Jvm.ClassFile.FieldType.object "java/lang/StringBuilder"))).before args0 about1 = true := code_word (m := ⟨29, 1⟩) (meth := k29m1) (c := k29c1) (by decide +kernel) rfl rfl rfl (by decide +kernel)
set_option maxRecDepth 65536 in
theorem w_c37 : (Jvm.Cond.code ({ cls := "java/lang/String", name := "valueOf", desc := "(Ljava/lang/Object;)Ljava/lang/String;" } : Jvm.MethodName) jdk_42_method_133_code (1 : Nat) (Option.some (Jvm.ClassFile.FieldType.object "java/lang/String"))).before args0 about1 = true := code_word (m := ⟨7, 6⟩) (meth := k7m6) (c := k7c6) (by decide +kernel) rfl rfl rfl (by decide +kernel)
set_option maxRecDepth 65536 in
theorem w_c38 : (Jvm.Cond.code ({ cls := "java/util/Collections$UnmodifiableCollection", name := "toString", desc := "()Ljava/lang/String;" } : Jvm.MethodName) jdk_119_method_8_code (1 : Nat) (Option.some (Jvm.ClassFile.FieldType.object "java/lang/String"))).before args0 about1 = true := code_word (m := ⟨24, 1⟩) (meth := k24m1) (c := k24c1) (by decide +kernel) rfl rfl rfl (by decide +kernel)
set_option maxRecDepth 65536 in
theorem w_c39 : (Jvm.Cond.code ({ cls := "java/util/AbstractCollection", name := "toString", desc := "()Ljava/lang/String;" } : Jvm.MethodName) jdk_22_method_16_code (4 : Nat) (Option.some (Jvm.ClassFile.FieldType.object "java/lang/String"))).before args0 about1 = true := code_word (m := ⟨12, 2⟩) (meth := k12m2) (c := k12c2) (by decide +kernel) rfl rfl rfl (by decide +kernel)
set_option maxRecDepth 65536 in
theorem w_c40 : (Jvm.Cond.code ({ cls := "java/util/ArrayList", name := "iterator", desc := "()Ljava/util/Iterator;" } : Jvm.MethodName) jdk_38_method_55_code (1 : Nat) (Option.some (Jvm.ClassFile.FieldType.object "java/util/Iterator"))).before args0 about1 = true := code_word (m := ⟨18, 7⟩) (meth := k18m7) (c := k18c7) (by decide +kernel) rfl rfl rfl (by decide +kernel)
set_option maxRecDepth 65536 in
theorem w_c41 : (Jvm.Cond.code ({ cls := "java/util/ArrayList$Itr", name := "<init>", desc := "(Ljava/util/ArrayList;)V" } : Jvm.MethodName) jdk_49_method_1_code (2 : Nat) (Option.none : Option Jvm.ClassFile.FieldType)).before args0 about1 = true := code_word (m := ⟨31, 0⟩) (meth := k31m0) (c := k31c0) (by decide +kernel) rfl rfl rfl (by decide +kernel)
set_option maxRecDepth 65536 in
theorem w_c42 : (Jvm.Cond.code ({ cls := "java/util/ArrayList$Itr", name := "hasNext", desc := "()Z" } : Jvm.MethodName) jdk_49_method_2_code (1 : Nat) (Option.some Jvm.ClassFile.FieldType.boolean)).before args0 about1 = true := code_word (m := ⟨31, 1⟩) (meth := k31m1) (c := k31c1) (by decide +kernel) rfl rfl rfl (by decide +kernel)
set_option maxRecDepth 65536 in
theorem w_c43 : (Jvm.Cond.code ({ cls := "java/lang/StringBuilder", name := "toString", desc := "()Ljava/lang/String;" } : Jvm.MethodName) jdk_67_method_42_code (1 : Nat) (Option.some (Jvm.ClassFile.FieldType.object "java/lang/String"))).before args0 about1 = true := code_word (m := ⟨29, 4⟩) (meth := k29m4) (c := k29c4) (by decide +kernel) rfl rfl rfl (by decide +kernel)
set_option maxRecDepth 65536 in
theorem w_c44 : (Jvm.Cond.code ({ cls := "java/lang/String", name := "<init>", desc := "(Ljava/lang/StringBuilder;)V" } : Jvm.MethodName) jdk_42_method_53_code (2 : Nat) (Option.none : Option Jvm.ClassFile.FieldType)).before args0 about1 = true := code_word (m := ⟨7, 2⟩) (meth := k7m2) (c := k7c2) (by decide +kernel) rfl rfl rfl (by decide +kernel)
set_option maxRecDepth 65536 in
theorem w_c45 : (Jvm.Cond.code ({ cls := "java/lang/String", name := "<init>", desc := "(Ljava/lang/AbstractStringBuilder;Ljava/lang/Void;)V" } : Jvm.MethodName) jdk_42_method_150_code (5 : Nat) (Option.none : Option Jvm.ClassFile.FieldType)).before args0 about1 = true := code_word (m := ⟨7, 10⟩) (meth := k7m10) (c := k7c10) (by decide +kernel) rfl rfl rfl (by decide +kernel)
set_option maxRecDepth 65536 in
theorem w_c46 : (Jvm.Cond.code ({ cls := "java/lang/AbstractStringBuilder", name := "getValue", desc := "()[B" } : Jvm.MethodName) jdk_68_method_64_code (1 : Nat) (Option.some (Jvm.ClassFile.FieldType.array Jvm.ClassFile.FieldType.byte))).before args0 about1 = true := code_word (m := ⟨28, 6⟩) (meth := k28m6) (c := k28c6) (by decide +kernel) rfl rfl rfl (by decide +kernel)
set_option maxRecDepth 65536 in
theorem w_c47 : (Jvm.Cond.code ({ cls := "java/lang/StringBuilder", name := "length", desc := "()I" } : Jvm.MethodName) jdk_67_method_93_code (1 : Nat) (Option.some Jvm.ClassFile.FieldType.int)).before args0 about1 = true := code_word (m := ⟨29, 5⟩) (meth := k29m5) (c := k29c5) (by decide +kernel) rfl rfl rfl (by decide +kernel)
set_option maxRecDepth 65536 in
theorem w_c48 : (Jvm.Cond.code ({ cls := "java/lang/AbstractStringBuilder", name := "length", desc := "()I" } : Jvm.MethodName) jdk_68_method_6_code (1 : Nat) (Option.some Jvm.ClassFile.FieldType.int)).before args0 about1 = true := code_word (m := ⟨28, 2⟩) (meth := k28m2) (c := k28c2) (by decide +kernel) rfl rfl rfl (by decide +kernel)
set_option maxRecDepth 65536 in
theorem w_c49 : (Jvm.Cond.code ({ cls := "java/lang/AbstractStringBuilder", name := "isLatin1", desc := "()Z" } : Jvm.MethodName) jdk_68_method_68_code (1 : Nat) (Option.some Jvm.ClassFile.FieldType.boolean)).before args0 about1 = true := code_word (m := ⟨28, 7⟩) (meth := k28m7) (c := k28c7) (by decide +kernel) rfl rfl rfl (by decide +kernel)
set_option maxRecDepth 65536 in
theorem w_c50 : (Jvm.Cond.code ({ cls := "java/util/Arrays", name := "copyOfRange", desc := "([BII)[B" } : Jvm.MethodName) jdk_65_method_132_code (3 : Nat) (Option.some (Jvm.ClassFile.FieldType.array Jvm.ClassFile.FieldType.byte))).before args0 about1 = true := code_word (m := ⟨20, 4⟩) (meth := k20m4) (c := k20c4) (by decide +kernel) rfl rfl rfl (by decide +kernel)
set_option maxRecDepth 65536 in
theorem w_c51 : (Jvm.Cond.code ({ cls := "java/util/Arrays", name := "copyOfRangeByte", desc := "([BII)[B" } : Jvm.MethodName) jdk_65_method_133_code (5 : Nat) (Option.some (Jvm.ClassFile.FieldType.array Jvm.ClassFile.FieldType.byte))).before args0 about1 = true := code_word (m := ⟨20, 5⟩) (meth := k20m5) (c := k20c5) (by decide +kernel) rfl rfl rfl (by decide +kernel)
set_option maxRecDepth 65536 in
theorem w_c52 : (Jvm.Cond.code ({ cls := "java/util/Arrays", name := "checkLength", desc := "(II)V" } : Jvm.MethodName) jdk_65_method_131_code (2 : Nat) (Option.none : Option Jvm.ClassFile.FieldType)).before args0 about1 = true := code_word (m := ⟨20, 3⟩) (meth := k20m3) (c := k20c3) (by decide +kernel) rfl rfl rfl (by decide +kernel)
set_option maxRecDepth 65536 in
theorem w_c53 : (Jvm.Cond.code ({ cls := "java/lang/String", name := "equals", desc := "(Ljava/lang/Object;)Z" } : Jvm.MethodName) jdk_42_method_66_code (3 : Nat) (Option.some Jvm.ClassFile.FieldType.boolean)).before args0 about1 = true := code_word (m := ⟨7, 4⟩) (meth := k7m4) (c := k7c4) (by decide +kernel) rfl rfl rfl (by decide +kernel)
set_option maxRecDepth 65536 in
theorem w_c54 : (Jvm.Cond.code ({ cls := "java/lang/StringLatin1", name := "equals", desc := "([B[B)Z" } : Jvm.MethodName) jdk_43_method_13_code (3 : Nat) (Option.some Jvm.ClassFile.FieldType.boolean)).before args0 about1 = true := code_word (m := ⟨8, 2⟩) (meth := k8m2) (c := k8c2) (by decide +kernel) rfl rfl rfl (by decide +kernel)
set_option maxRecDepth 65536 in
theorem w_c55 : (Jvm.Cond.code ({ cls := "java/util/ArrayList", name := "add", desc := "(Ljava/lang/Object;)Z" } : Jvm.MethodName) jdk_38_method_25_code (2 : Nat) (Option.some Jvm.ClassFile.FieldType.boolean)).before args0 about1 = true := code_word (m := ⟨18, 6⟩) (meth := k18m6) (c := k18c6) (by decide +kernel) rfl rfl rfl (by decide +kernel)
set_option maxRecDepth 65536 in
theorem w_c56 : (Jvm.Cond.code ({ cls := "java/util/ArrayList", name := "add", desc := "(Ljava/lang/Object;[Ljava/lang/Object;I)V" } : Jvm.MethodName) jdk_38_method_24_code (4 : Nat) (Option.none : Option Jvm.ClassFile.FieldType)).before args0 about1 = true := code_word (m := ⟨18, 5⟩) (meth := k18m5) (c := k18c5) (by decide +kernel) rfl rfl rfl (by decide +kernel)
set_option maxRecDepth 65536 in
theorem w_c57 : (Jvm.Cond.code ({ cls := "java/util/ArrayList", name := "grow", desc := "()[Ljava/lang/Object;" } : Jvm.MethodName) jdk_38_method_7_code (1 : Nat) (Option.some (Jvm.ClassFile.FieldType.array (Jvm.ClassFile.FieldType.object "java/lang/Object")))).before args0 about1 = true := code_word (m := ⟨18, 3⟩) (meth := k18m3) (c := k18c3) (by decide +kernel) rfl rfl rfl (by decide +kernel)
set_option maxRecDepth 65536 in
theorem w_c58 : (Jvm.Cond.code ({ cls := "java/util/ArrayList", name := "grow", desc := "(I)[Ljava/lang/Object;" } : Jvm.MethodName) jdk_38_method_6_code (4 : Nat) (Option.some (Jvm.ClassFile.FieldType.array (Jvm.ClassFile.FieldType.object "java/lang/Object")))).before args0 about1 = true := code_word (m := ⟨18, 2⟩) (meth := k18m2) (c := k18c2) (by decide +kernel) rfl rfl rfl (by decide +kernel)
set_option maxRecDepth 65536 in
theorem w_c59 : (Jvm.Cond.code ({ cls := "java/lang/Math", name := "max", desc := "(II)I" } : Jvm.MethodName) jdk_29_method_65_code (2 : Nat) (Option.some Jvm.ClassFile.FieldType.int)).before args0 about1 = true := code_word (m := ⟨21, 1⟩) (meth := k21m1) (c := k21c1) (by decide +kernel) rfl rfl rfl (by decide +kernel)
set_option maxRecDepth 65536 in
theorem w_c60 : (Jvm.Cond.code ({ cls := "java/lang/StringBuilder", name := "append", desc := "(C)Ljava/lang/StringBuilder;" } : Jvm.MethodName) jdk_67_method_14_code (2 : Nat) (Option.some (Jvm.ClassFile.FieldType.object "java/lang/StringBuilder"))).before args0 about1 = true := code_word (m := ⟨29, 3⟩) (meth := k29m3) (c := k29c3) (by decide +kernel) rfl rfl rfl (by decide +kernel)
set_option maxRecDepth 65536 in
theorem w_c61 : (Jvm.Cond.code ({ cls := "java/lang/AbstractStringBuilder", name := "append", desc := "(C)Ljava/lang/AbstractStringBuilder;" } : Jvm.MethodName) jdk_68_method_31_code (2 : Nat) (Option.some (Jvm.ClassFile.FieldType.object "java/lang/AbstractStringBuilder"))).before args0 about1 = true := code_word (m := ⟨28, 5⟩) (meth := k28m5) (c := k28c5) (by decide +kernel) rfl rfl rfl (by decide +kernel)
set_option maxRecDepth 65536 in
theorem w_c62 : (Jvm.Cond.code ({ cls := "java/util/ArrayList$Itr", name := "next", desc := "()Ljava/lang/Object;" } : Jvm.MethodName) jdk_49_method_3_code (3 : Nat) (Option.some (Jvm.ClassFile.FieldType.object "java/lang/Object"))).before args0 about1 = true := code_word (m := ⟨31, 2⟩) (meth := k31m2) (c := k31c2) (by decide +kernel) rfl rfl rfl (by decide +kernel)
set_option maxRecDepth 65536 in
theorem w_c63 : (Jvm.Cond.code ({ cls := "java/util/ArrayList$Itr", name := "checkForComodification", desc := "()V" } : Jvm.MethodName) jdk_49_method_6_code (1 : Nat) (Option.none : Option Jvm.ClassFile.FieldType)).before args0 about1 = true := code_word (m := ⟨31, 3⟩) (meth := k31m3) (c := k31c3) (by decide +kernel) rfl rfl rfl (by decide +kernel)
set_option maxRecDepth 65536 in
theorem w_c64 : (Jvm.Cond.code ({ cls := "java/lang/String", name := "toString", desc := "()Ljava/lang/String;" } : Jvm.MethodName) jdk_42_method_126_code (1 : Nat) (Option.some (Jvm.ClassFile.FieldType.object "java/lang/String"))).before args0 about1 = true := code_word (m := ⟨7, 5⟩) (meth := k7m5) (c := k7c5) (by decide +kernel) rfl rfl rfl (by decide +kernel)
def codes1 : List Jvm.Cond := [Jvm.Cond.code x code maxLocals ret, Jvm.Cond.code ({ cls := "java/lang/String", name := "valueOf", desc := "(C)Ljava/lang/String;" } : Jvm.MethodName) jdk_42_method_139_code (1 : Nat) (Option.some (Jvm.ClassFile.FieldType.object "java/lang/String")), Jvm.Cond.code ({ cls := "java/lang/StringLatin1", name := "canEncode", desc := "(C)Z" } : Jvm.MethodName) jdk_43_method_3_code (1 : Nat) (Option.some Jvm.ClassFile.FieldType.boolean), Jvm.Cond.code ({ cls := "java/lang/StringLatin1", name := "toBytes", desc := "(C)[B" } : Jvm.MethodName) jdk_43_method_46_code (1 : Nat) (Option.some (Jvm.ClassFile.FieldType.array Jvm.ClassFile.FieldType.byte)), Jvm.Cond.code ({ cls := "java/lang/String", name := "<init>", desc := "([BB)V" } : Jvm.MethodName) jdk_42_method_151_code (3 : Nat) (Option.none : Option Jvm.ClassFile.FieldType), Jvm.Cond.code ({ cls := "java/lang/Object", name := "<init>", desc := "()V" } : Jvm.MethodName) object_method_1_code (1 : Nat) (Option.none : Option Jvm.ClassFile.FieldType), Jvm.Cond.code ({ cls := "com/example/row_lease/rowlease/model/VersionGroupToStringPinLaw", name := "expected", desc := "(ICCCC)Ljava/lang/String;" } : Jvm.MethodName) method_3_code (5 : Nat) (Option.some (Jvm.ClassFile.FieldType.object "java/lang/String")), Jvm.Cond.code ({ cls := "java/lang/String", name := "<init>", desc := "([C)V" } : Jvm.MethodName) jdk_42_method_3_code (2 : Nat) (Option.none : Option Jvm.ClassFile.FieldType), Jvm.Cond.code ({ cls := "java/lang/String", name := "<init>", desc := "([CIILjava/lang/Void;)V" } : Jvm.MethodName) jdk_42_method_149_code (6 : Nat) (Option.none : Option Jvm.ClassFile.FieldType), Jvm.Cond.code ({ cls := "java/lang/StringUTF16", name := "compress", desc := "([CII)[B" } : Jvm.MethodName) jdk_52_method_16_code (6 : Nat) (Option.some (Jvm.ClassFile.FieldType.array Jvm.ClassFile.FieldType.byte)), Jvm.Cond.code ({ cls := "java/lang/StringUTF16", name := "compress", desc := "([CI[BII)I" } : Jvm.MethodName) jdk_52_method_21_code (7 : Nat) (Option.some Jvm.ClassFile.FieldType.int), Jvm.Cond.code ({ cls := "java/lang/StringUTF16", name := "coderFromArrayLen", desc := "([BI)B" } : Jvm.MethodName) jdk_52_method_15_code (2 : Nat) (Option.some Jvm.ClassFile.FieldType.byte), Jvm.Cond.code ({ cls := "java/util/ArrayList", name := "<init>", desc := "()V" } : Jvm.MethodName) jdk_38_method_2_code (1 : Nat) (Option.none : Option Jvm.ClassFile.FieldType), Jvm.Cond.code ({ cls := "java/util/AbstractList", name := "<init>", desc := "()V" } : Jvm.MethodName) jdk_39_method_1_code (1 : Nat) (Option.none : Option Jvm.ClassFile.FieldType), Jvm.Cond.code ({ cls := "java/util/AbstractCollection", name := "<init>", desc := "()V" } : Jvm.MethodName) jdk_22_method_1_code (1 : Nat) (Option.none : Option Jvm.ClassFile.FieldType), Jvm.Cond.code ({ cls := "com/example/row_lease/rowlease/model/VersionGroup", name := "<init>", desc := "(Ljava/lang/String;Ljava/util/List;)V" } : Jvm.MethodName) prog_25_method_1_code (3 : Nat) (Option.none : Option Jvm.ClassFile.FieldType), Jvm.Cond.code ({ cls := "java/util/ArrayList", name := "<init>", desc := "(Ljava/util/Collection;)V" } : Jvm.MethodName) jdk_38_method_3_code (3 : Nat) (Option.none : Option Jvm.ClassFile.FieldType), Jvm.Cond.code ({ cls := "java/util/ArrayList", name := "toArray", desc := "()[Ljava/lang/Object;" } : Jvm.MethodName) jdk_38_method_16_code (1 : Nat) (Option.some (Jvm.ClassFile.FieldType.array (Jvm.ClassFile.FieldType.object "java/lang/Object"))), Jvm.Cond.code ({ cls := "java/util/Arrays", name := "copyOf", desc := "([Ljava/lang/Object;I)[Ljava/lang/Object;" } : Jvm.MethodName) jdk_65_method_119_code (2 : Nat) (Option.some (Jvm.ClassFile.FieldType.array (Jvm.ClassFile.FieldType.object "java/lang/Object"))), Jvm.Cond.code ({ cls := "java/util/Arrays", name := "copyOf", desc := "([Ljava/lang/Object;ILjava/lang/Class;)[Ljava/lang/Object;" } : Jvm.MethodName) jdk_65_method_120_code (4 : Nat) (Option.some (Jvm.ClassFile.FieldType.array (Jvm.ClassFile.FieldType.object "java/lang/Object"))), Jvm.Cond.code ({ cls := "java/lang/Math", name := "min", desc := "(II)I" } : Jvm.MethodName) jdk_29_method_69_code (2 : Nat) (Option.some Jvm.ClassFile.FieldType.int), Jvm.Cond.code ({ cls := "java/util/Collections", name := "unmodifiableList", desc := "(Ljava/util/List;)Ljava/util/List;" } : Jvm.MethodName) jdk_79_method_35_code (1 : Nat) (Option.some (Jvm.ClassFile.FieldType.object "java/util/List")), Jvm.Cond.code ({ cls := "java/util/Collections$UnmodifiableRandomAccessList", name := "<init>", desc := "(Ljava/util/List;)V" } : Jvm.MethodName) jdk_121_method_1_code (2 : Nat) (Option.none : Option Jvm.ClassFile.FieldType), Jvm.Cond.code ({ cls := "java/util/Collections$UnmodifiableList", name := "<init>", desc := "(Ljava/util/List;)V" } : Jvm.MethodName) jdk_120_method_1_code (2 : Nat) (Option.none : Option Jvm.ClassFile.FieldType), Jvm.Cond.code ({ cls := "java/util/Collections$UnmodifiableCollection", name := "<init>", desc := "(Ljava/util/Collection;)V" } : Jvm.MethodName) jdk_119_method_1_code (2 : Nat) (Option.none : Option Jvm.ClassFile.FieldType), Jvm.Cond.code ({ cls := "com/example/row_lease/rowlease/model/VersionGroup", name := "toString", desc := "()Ljava/lang/String;" } : Jvm.MethodName) prog_25_method_6_code (1 : Nat) (Option.some (Jvm.ClassFile.FieldType.object "java/lang/String")), Jvm.Cond.code ({ cls := "java/lang/StringBuilder", name := "<init>", desc := "()V" } : Jvm.MethodName) jdk_67_method_1_code (1 : Nat) (Option.none : Option Jvm.ClassFile.FieldType), Jvm.Cond.code ({ cls := "java/lang/AbstractStringBuilder", name := "<init>", desc := "(I)V" } : Jvm.MethodName) jdk_68_method_2_code (2 : Nat) (Option.none : Option Jvm.ClassFile.FieldType), Jvm.Cond.code ({ cls := "java/lang/StringBuilder", name := "append", desc := "(Ljava/lang/String;)Ljava/lang/StringBuilder;" } : Jvm.MethodName) jdk_67_method_7_code (2 : Nat) (Option.some (Jvm.ClassFile.FieldType.object "java/lang/StringBuilder")), Jvm.Cond.code ({ cls := "java/lang/AbstractStringBuilder", name := "append", desc := "(Ljava/lang/String;)Ljava/lang/AbstractStringBuilder;" } : Jvm.MethodName) jdk_68_method_22_code (3 : Nat) (Option.some (Jvm.ClassFile.FieldType.object "java/lang/AbstractStringBuilder")), Jvm.Cond.code ({ cls := "java/lang/String", name := "length", desc := "()I" } : Jvm.MethodName) jdk_42_method_54_code (1 : Nat) (Option.some Jvm.ClassFile.FieldType.int), Jvm.Cond.code ({ cls := "java/lang/String", name := "coder", desc := "()B" } : Jvm.MethodName) jdk_42_method_152_code (1 : Nat) (Option.some Jvm.ClassFile.FieldType.byte), Jvm.Cond.code ({ cls := "java/lang/AbstractStringBuilder", name := "ensureCapacityInternal", desc := "(I)V" } : Jvm.MethodName) jdk_68_method_9_code (3 : Nat) (Option.none : Option Jvm.ClassFile.FieldType), Jvm.Cond.code ({ cls := "java/lang/AbstractStringBuilder", name := "putStringAt", desc := "(ILjava/lang/String;)V" } : Jvm.MethodName) jdk_68_method_73_code (3 : Nat) (Option.none : Option Jvm.ClassFile.FieldType), Jvm.Cond.code ({ cls := "java/lang/AbstractStringBuilder", name := "inflateIfNeededFor", desc := "(Ljava/lang/String;)V" } : Jvm.MethodName) jdk_68_method_71_code (2 : Nat) (Option.none : Option Jvm.ClassFile.FieldType), Jvm.Cond.code ({ cls := "java/lang/String", name := "getBytes", desc := "([BIB)V" } : Jvm.MethodName) jdk_42_method_147_code (4 : Nat) (Option.none : Option Jvm.ClassFile.FieldType), Jvm.Cond.code ({ cls := "java/lang/StringBuilder", name := "append", desc := "(Ljava/lang/Object;)Ljava/lang/StringBuilder;" } : Jvm.MethodName) jdk_67_method_6_code (2 : Nat) (Option.some (Jvm.ClassFile.FieldType.object "java/lang/StringBuilder")), Jvm.Cond.code ({ cls := "java/lang/String", name := "valueOf", desc := "(Ljava/lang/Object;)Ljava/lang/String;" } : Jvm.MethodName) jdk_42_method_133_code (1 : Nat) (Option.some (Jvm.ClassFile.FieldType.object "java/lang/String")), Jvm.Cond.code ({ cls := "java/util/Collections$UnmodifiableCollection", name := "toString", desc := "()Ljava/lang/String;" } : Jvm.MethodName) jdk_119_method_8_code (1 : Nat) (Option.some (Jvm.ClassFile.FieldType.object "java/lang/String")), Jvm.Cond.code ({ cls := "java/util/AbstractCollection", name := "toString", desc := "()Ljava/lang/String;" } : Jvm.MethodName) jdk_22_method_16_code (4 : Nat) (Option.some (Jvm.ClassFile.FieldType.object "java/lang/String")), Jvm.Cond.code ({ cls := "java/util/ArrayList", name := "iterator", desc := "()Ljava/util/Iterator;" } : Jvm.MethodName) jdk_38_method_55_code (1 : Nat) (Option.some (Jvm.ClassFile.FieldType.object "java/util/Iterator")), Jvm.Cond.code ({ cls := "java/util/ArrayList$Itr", name := "<init>", desc := "(Ljava/util/ArrayList;)V" } : Jvm.MethodName) jdk_49_method_1_code (2 : Nat) (Option.none : Option Jvm.ClassFile.FieldType), Jvm.Cond.code ({ cls := "java/util/ArrayList$Itr", name := "hasNext", desc := "()Z" } : Jvm.MethodName) jdk_49_method_2_code (1 : Nat) (Option.some Jvm.ClassFile.FieldType.boolean), Jvm.Cond.code ({ cls := "java/lang/StringBuilder", name := "toString", desc := "()Ljava/lang/String;" } : Jvm.MethodName) jdk_67_method_42_code (1 : Nat) (Option.some (Jvm.ClassFile.FieldType.object "java/lang/String")), Jvm.Cond.code ({ cls := "java/lang/String", name := "<init>", desc := "(Ljava/lang/StringBuilder;)V" } : Jvm.MethodName) jdk_42_method_53_code (2 : Nat) (Option.none : Option Jvm.ClassFile.FieldType), Jvm.Cond.code ({ cls := "java/lang/String", name := "<init>", desc := "(Ljava/lang/AbstractStringBuilder;Ljava/lang/Void;)V" } : Jvm.MethodName) jdk_42_method_150_code (5 : Nat) (Option.none : Option Jvm.ClassFile.FieldType), Jvm.Cond.code ({ cls := "java/lang/AbstractStringBuilder", name := "getValue", desc := "()[B" } : Jvm.MethodName) jdk_68_method_64_code (1 : Nat) (Option.some (Jvm.ClassFile.FieldType.array Jvm.ClassFile.FieldType.byte)), Jvm.Cond.code ({ cls := "java/lang/StringBuilder", name := "length", desc := "()I" } : Jvm.MethodName) jdk_67_method_93_code (1 : Nat) (Option.some Jvm.ClassFile.FieldType.int), Jvm.Cond.code ({ cls := "java/lang/AbstractStringBuilder", name := "length", desc := "()I" } : Jvm.MethodName) jdk_68_method_6_code (1 : Nat) (Option.some Jvm.ClassFile.FieldType.int), Jvm.Cond.code ({ cls := "java/lang/AbstractStringBuilder", name := "isLatin1", desc := "()Z" } : Jvm.MethodName) jdk_68_method_68_code (1 : Nat) (Option.some Jvm.ClassFile.FieldType.boolean), Jvm.Cond.code ({ cls := "java/util/Arrays", name := "copyOfRange", desc := "([BII)[B" } : Jvm.MethodName) jdk_65_method_132_code (3 : Nat) (Option.some (Jvm.ClassFile.FieldType.array Jvm.ClassFile.FieldType.byte)), Jvm.Cond.code ({ cls := "java/util/Arrays", name := "copyOfRangeByte", desc := "([BII)[B" } : Jvm.MethodName) jdk_65_method_133_code (5 : Nat) (Option.some (Jvm.ClassFile.FieldType.array Jvm.ClassFile.FieldType.byte)), Jvm.Cond.code ({ cls := "java/util/Arrays", name := "checkLength", desc := "(II)V" } : Jvm.MethodName) jdk_65_method_131_code (2 : Nat) (Option.none : Option Jvm.ClassFile.FieldType), Jvm.Cond.code ({ cls := "java/lang/String", name := "equals", desc := "(Ljava/lang/Object;)Z" } : Jvm.MethodName) jdk_42_method_66_code (3 : Nat) (Option.some Jvm.ClassFile.FieldType.boolean), Jvm.Cond.code ({ cls := "java/lang/StringLatin1", name := "equals", desc := "([B[B)Z" } : Jvm.MethodName) jdk_43_method_13_code (3 : Nat) (Option.some Jvm.ClassFile.FieldType.boolean), Jvm.Cond.code ({ cls := "java/util/ArrayList", name := "add", desc := "(Ljava/lang/Object;)Z" } : Jvm.MethodName) jdk_38_method_25_code (2 : Nat) (Option.some Jvm.ClassFile.FieldType.boolean), Jvm.Cond.code ({ cls := "java/util/ArrayList", name := "add", desc := "(Ljava/lang/Object;[Ljava/lang/Object;I)V" } : Jvm.MethodName) jdk_38_method_24_code (4 : Nat) (Option.none : Option Jvm.ClassFile.FieldType), Jvm.Cond.code ({ cls := "java/util/ArrayList", name := "grow", desc := "()[Ljava/lang/Object;" } : Jvm.MethodName) jdk_38_method_7_code (1 : Nat) (Option.some (Jvm.ClassFile.FieldType.array (Jvm.ClassFile.FieldType.object "java/lang/Object"))), Jvm.Cond.code ({ cls := "java/util/ArrayList", name := "grow", desc := "(I)[Ljava/lang/Object;" } : Jvm.MethodName) jdk_38_method_6_code (4 : Nat) (Option.some (Jvm.ClassFile.FieldType.array (Jvm.ClassFile.FieldType.object "java/lang/Object"))), Jvm.Cond.code ({ cls := "java/lang/Math", name := "max", desc := "(II)I" } : Jvm.MethodName) jdk_29_method_65_code (2 : Nat) (Option.some Jvm.ClassFile.FieldType.int), Jvm.Cond.code ({ cls := "java/lang/StringBuilder", name := "append", desc := "(C)Ljava/lang/StringBuilder;" } : Jvm.MethodName) jdk_67_method_14_code (2 : Nat) (Option.some (Jvm.ClassFile.FieldType.object "java/lang/StringBuilder")), Jvm.Cond.code ({ cls := "java/lang/AbstractStringBuilder", name := "append", desc := "(C)Ljava/lang/AbstractStringBuilder;" } : Jvm.MethodName) jdk_68_method_31_code (2 : Nat) (Option.some (Jvm.ClassFile.FieldType.object "java/lang/AbstractStringBuilder")), Jvm.Cond.code ({ cls := "java/util/ArrayList$Itr", name := "next", desc := "()Ljava/lang/Object;" } : Jvm.MethodName) jdk_49_method_3_code (3 : Nat) (Option.some (Jvm.ClassFile.FieldType.object "java/lang/Object")), Jvm.Cond.code ({ cls := "java/util/ArrayList$Itr", name := "checkForComodification", desc := "()V" } : Jvm.MethodName) jdk_49_method_6_code (1 : Nat) (Option.none : Option Jvm.ClassFile.FieldType), Jvm.Cond.code ({ cls := "java/lang/String", name := "toString", desc := "()Ljava/lang/String;" } : Jvm.MethodName) jdk_42_method_126_code (1 : Nat) (Option.some (Jvm.ClassFile.FieldType.object "java/lang/String"))]
set_option maxRecDepth 65536 in
theorem codes_eq : words1.filter isCode = codes1 := rfl
theorem w_codes : ∀ c ∈ words1.filter isCode, c.before args0 about1 = true := by
  rw [codes_eq]
  intro c hc
  simp only [codes1, List.mem_cons, List.not_mem_nil, or_false] at hc
  rcases hc with rfl | rfl | rfl | rfl | rfl | rfl | rfl | rfl | rfl | rfl | rfl | rfl | rfl | rfl | rfl | rfl | rfl | rfl | rfl | rfl | rfl | rfl | rfl | rfl | rfl | rfl | rfl | rfl | rfl | rfl | rfl | rfl | rfl | rfl | rfl | rfl | rfl | rfl | rfl | rfl | rfl | rfl | rfl | rfl | rfl | rfl | rfl | rfl | rfl | rfl | rfl | rfl | rfl | rfl | rfl | rfl | rfl | rfl | rfl | rfl | rfl | rfl | rfl | rfl | rfl
  · exact w_c0
  · exact w_c1
  · exact w_c2
  · exact w_c3
  · exact w_c4
  · exact w_c5
  · exact w_c6
  · exact w_c7
  · exact w_c8
  · exact w_c9
  · exact w_c10
  · exact w_c11
  · exact w_c12
  · exact w_c13
  · exact w_c14
  · exact w_c15
  · exact w_c16
  · exact w_c17
  · exact w_c18
  · exact w_c19
  · exact w_c20
  · exact w_c21
  · exact w_c22
  · exact w_c23
  · exact w_c24
  · exact w_c25
  · exact w_c26
  · exact w_c27
  · exact w_c28
  · exact w_c29
  · exact w_c30
  · exact w_c31
  · exact w_c32
  · exact w_c33
  · exact w_c34
  · exact w_c35
  · exact w_c36
  · exact w_c37
  · exact w_c38
  · exact w_c39
  · exact w_c40
  · exact w_c41
  · exact w_c42
  · exact w_c43
  · exact w_c44
  · exact w_c45
  · exact w_c46
  · exact w_c47
  · exact w_c48
  · exact w_c49
  · exact w_c50
  · exact w_c51
  · exact w_c52
  · exact w_c53
  · exact w_c54
  · exact w_c55
  · exact w_c56
  · exact w_c57
  · exact w_c58
  · exact w_c59
  · exact w_c60
  · exact w_c61
  · exact w_c62
  · exact w_c63
  · exact w_c64
set_option maxRecDepth 65536 in
theorem w_t1 : (words1.take 24).all (fun c => isCode c || c.before args0 about1) = true := by decide +kernel
set_option maxRecDepth 65536 in
theorem w_t2 : ((words1.drop 24).take 24).all (fun c => isCode c || c.before args0 about1) = true := by decide +kernel
set_option maxRecDepth 65536 in
theorem w_t3 : (((words1.drop 24).drop 24).take 24).all (fun c => isCode c || c.before args0 about1) = true := by decide +kernel
set_option maxRecDepth 65536 in
theorem w_t4 : ((((words1.drop 24).drop 24).drop 24).take 24).all (fun c => isCode c || c.before args0 about1) = true := by decide +kernel
set_option maxRecDepth 65536 in
theorem w_t5 : (((((words1.drop 24).drop 24).drop 24).drop 24).take 24).all (fun c => isCode c || c.before args0 about1) = true := by decide +kernel
set_option maxRecDepth 65536 in
theorem w_t6 : ((((((words1.drop 24).drop 24).drop 24).drop 24).drop 24).take 24).all (fun c => isCode c || c.before args0 about1) = true := by decide +kernel
set_option maxRecDepth 65536 in
theorem w_t7 : (((((((words1.drop 24).drop 24).drop 24).drop 24).drop 24).drop 24).take 24).all (fun c => isCode c || c.before args0 about1) = true := by decide +kernel
set_option maxRecDepth 65536 in
theorem w_t8 : ((((((((words1.drop 24).drop 24).drop 24).drop 24).drop 24).drop 24).drop 24).take 24).all (fun c => isCode c || c.before args0 about1) = true := by decide +kernel
set_option maxRecDepth 65536 in
theorem w_t9 : (((((((((words1.drop 24).drop 24).drop 24).drop 24).drop 24).drop 24).drop 24).drop 24).take 24).all (fun c => isCode c || c.before args0 about1) = true := by decide +kernel
set_option maxRecDepth 65536 in
theorem w_t10 : ((((((((((words1.drop 24).drop 24).drop 24).drop 24).drop 24).drop 24).drop 24).drop 24).drop 24).take 24).all (fun c => isCode c || c.before args0 about1) = true := by decide +kernel
set_option maxRecDepth 65536 in
theorem w_t11 : (((((((((((words1.drop 24).drop 24).drop 24).drop 24).drop 24).drop 24).drop 24).drop 24).drop 24).drop 24).take 24).all (fun c => isCode c || c.before args0 about1) = true := by decide +kernel
set_option maxRecDepth 65536 in
theorem w_t12 : ((((((((((((words1.drop 24).drop 24).drop 24).drop 24).drop 24).drop 24).drop 24).drop 24).drop 24).drop 24).drop 24).take 24).all (fun c => isCode c || c.before args0 about1) = true := by decide +kernel
set_option maxRecDepth 65536 in
theorem w_t13 : (((((((((((((words1.drop 24).drop 24).drop 24).drop 24).drop 24).drop 24).drop 24).drop 24).drop 24).drop 24).drop 24).drop 24).take 24).all (fun c => isCode c || c.before args0 about1) = true := by decide +kernel
set_option maxRecDepth 65536 in
theorem w_t14 : ((((((((((((((words1.drop 24).drop 24).drop 24).drop 24).drop 24).drop 24).drop 24).drop 24).drop 24).drop 24).drop 24).drop 24).drop 24).take 24).all (fun c => isCode c || c.before args0 about1) = true := by decide +kernel
set_option maxRecDepth 65536 in
theorem w_t15 : (((((((((((((((words1.drop 24).drop 24).drop 24).drop 24).drop 24).drop 24).drop 24).drop 24).drop 24).drop 24).drop 24).drop 24).drop 24).drop 24).take 24).all (fun c => isCode c || c.before args0 about1) = true := by decide +kernel
set_option maxRecDepth 65536 in
theorem w_t16 : ((((((((((((((((words1.drop 24).drop 24).drop 24).drop 24).drop 24).drop 24).drop 24).drop 24).drop 24).drop 24).drop 24).drop 24).drop 24).drop 24).drop 24).take 24).all (fun c => isCode c || c.before args0 about1) = true := by decide +kernel
set_option maxRecDepth 65536 in
theorem w_t17 : ((((((((((((((((words1.drop 24).drop 24).drop 24).drop 24).drop 24).drop 24).drop 24).drop 24).drop 24).drop 24).drop 24).drop 24).drop 24).drop 24).drop 24).drop 24).all (fun c => isCode c || c.before args0 about1) = true := by decide +kernel
theorem w_tables : (allAtoms (Jvm.Cond.code x code maxLocals ret :: tables_1)).before args0 about1 = true := by
  rw [allAtoms_all]
  show words1.all (fun c => c.before args0 about1) = true
  refine all_split ?_ w_codes
  rw [← List.take_append_drop 24 words1, List.all_append, w_t1, ← List.take_append_drop 24 (words1.drop 24), List.all_append, w_t2, ← List.take_append_drop 24 ((words1.drop 24).drop 24), List.all_append, w_t3, ← List.take_append_drop 24 (((words1.drop 24).drop 24).drop 24), List.all_append, w_t4, ← List.take_append_drop 24 ((((words1.drop 24).drop 24).drop 24).drop 24), List.all_append, w_t5, ← List.take_append_drop 24 (((((words1.drop 24).drop 24).drop 24).drop 24).drop 24), List.all_append, w_t6, ← List.take_append_drop 24 ((((((words1.drop 24).drop 24).drop 24).drop 24).drop 24).drop 24), List.all_append, w_t7, ← List.take_append_drop 24 (((((((words1.drop 24).drop 24).drop 24).drop 24).drop 24).drop 24).drop 24), List.all_append, w_t8, ← List.take_append_drop 24 ((((((((words1.drop 24).drop 24).drop 24).drop 24).drop 24).drop 24).drop 24).drop 24), List.all_append, w_t9, ← List.take_append_drop 24 (((((((((words1.drop 24).drop 24).drop 24).drop 24).drop 24).drop 24).drop 24).drop 24).drop 24), List.all_append, w_t10, ← List.take_append_drop 24 ((((((((((words1.drop 24).drop 24).drop 24).drop 24).drop 24).drop 24).drop 24).drop 24).drop 24).drop 24), List.all_append, w_t11, ← List.take_append_drop 24 (((((((((((words1.drop 24).drop 24).drop 24).drop 24).drop 24).drop 24).drop 24).drop 24).drop 24).drop 24).drop 24), List.all_append, w_t12, ← List.take_append_drop 24 ((((((((((((words1.drop 24).drop 24).drop 24).drop 24).drop 24).drop 24).drop 24).drop 24).drop 24).drop 24).drop 24).drop 24), List.all_append, w_t13, ← List.take_append_drop 24 (((((((((((((words1.drop 24).drop 24).drop 24).drop 24).drop 24).drop 24).drop 24).drop 24).drop 24).drop 24).drop 24).drop 24).drop 24), List.all_append, w_t14, ← List.take_append_drop 24 ((((((((((((((words1.drop 24).drop 24).drop 24).drop 24).drop 24).drop 24).drop 24).drop 24).drop 24).drop 24).drop 24).drop 24).drop 24).drop 24), List.all_append, w_t15, ← List.take_append_drop 24 (((((((((((((((words1.drop 24).drop 24).drop 24).drop 24).drop 24).drop 24).drop 24).drop 24).drop 24).drop 24).drop 24).drop 24).drop 24).drop 24).drop 24), List.all_append, w_t16, w_t17]
  rfl
set_option maxRecDepth 65536 in
theorem w_rest : rest_1_c.before args0 about1 = true := by decide +kernel
set_option maxRecDepth 65536 in
theorem w_case : (Jvm.Cond.and given_1 narrow_1).before args0 about1 = true := by decide +kernel
set_option maxRecDepth 65536 in
theorem w_consts : constsHeld consts_1 about1 := Jvm.Lit.constsHeldB_iff.mp (by decide +kernel)
theorem w_applies : (headSpec (Jvm.Cond.code x code maxLocals ret :: tables_1) room_1).applies x e0.platform about1 = true :=
  (Spec.applies_iff w_frames).mpr ⟨w_running, w_runnable, w_alone, w_named, w_hears, w_ripe, w_room, w_tables⟩
theorem atStart : AtStart classFile x code maxLocals ret World_1 tables_1 room_1 Calls_1 rest_1 Pre_1 launch0 p0 e0 about1 theMethod args0 below0 :=
  ⟨lists_1, trivial, launch0.admits_env _ _ _, launch0.least_env, fairChoices_fair.cas, fairChoices_fair.clock, w_frames, w_args, w_heap, w_applies, ⟨⟨41, k41, 3, by decide +kernel, rfl, rfl, _, rfl, rfl⟩, ⟨⟨18, k18, 4, by decide +kernel, rfl, rfl, _, rfl, rfl⟩, ⟨⟨25, k25, 5, by decide +kernel, rfl, rfl, _, rfl, rfl⟩, ⟨⟨26, k26, 6, by decide +kernel, rfl, rfl, _, rfl, rfl⟩, ⟨w_consts, trivial⟩⟩⟩⟩⟩, w_rest, w_case⟩
end start1
theorem witness_1 : WitnessClaimed_1 := ⟨start1.p0, start1.e0, start1.about1, start1.theMethod, start1.args0, start1.below0, start1.atStart⟩
end Jvm.Pilot.@@N@@
