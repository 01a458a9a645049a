import JvmDerived
import JvmDerived.Pilot.@@N@@Statement
import JvmDerived.Pilot.@@N@@Code
set_option linter.unusedVariables false
set_option linter.unusedSimpArgs false

/-! An interface call whose reference lands in another class's method (Object.toString by way of Collection), without the word that this method is public: the link word's own access test serves -/
namespace Jvm.OwnKit
open Sem ClassFile Op Lib Jvm.Stand Jvm.Free Jvm.LawKit Jvm.RoadKit
section IfUp
variable {p : Program} {l : Launch} {e : Env} {R : Room} {s : State} {m : MethodId} {args : Array Value} {below : List Frame} {meth : Method} {c : Code} {T : State} {locs : List Loc} {cells slots : Nat}
end IfUp
end Jvm.OwnKit
namespace Jvm.OwnKit
open Sem ClassFile Op Lib Jvm.Stand Jvm.Free Jvm.LawKit Jvm.RoadKit
/-! ## What is owed from a state on, and where a walk stands: one bundle a walk -/
def Go (tb : Tables) (e : Env) (below : List Frame) (P : Outcome → State → Prop) (A : State) : Prop := ∃ s₂ o, Steps tb e below A s₂ ∧ s₂.status = .running ∧ Ended s₂ below o ∧ P o s₂
theorem Go.go {tb : Tables} {e : Env} {below : List Frame} {P : Outcome → State → Prop} {A B : State} (st : ∀ t, Steps tb e below B t → Steps tb e below A t) (k : Go tb e below P B) : Go tb e below P A := by
  obtain ⟨s2, o, h, r⟩ := k
  exact ⟨s2, o, st _ h, r⟩
theorem Go.cast {tb : Tables} {e : Env} {below : List Frame} {P : Outcome → State → Prop} {T : State} {g g' : JFrame} (q : g = g') (k : Go tb e below P (T.setTop g')) : Go tb e below P (T.setTop g) := q ▸ k
def QQ (h0 : Heap) (n0 : Nat) (ws : List Addr) (Po : Option Value → Heap → Prop) (v : Option Value) (h : Heap) (L : List Loc) : Prop := Fr n0 L ∧ Keep h0 h ws ∧ Po v h
def PO (s : State) (R : Room) (h0 : Heap) (n0 : Nat) (ws : List Addr) (Po : Option Value → Heap → Prop) (o : Outcome) (t : State) : Prop := ∃ v L, o = .returned v ∧ QQ h0 n0 ws Po v t.heap L ∧ FrameEnd s o t L R.cells R.slots
/-- a method's contract: from the heap h0, with the arguments as', it returns some v, writes nothing that is older than h0 but what lies in ws (and nothing below n0), and Po v h at its end -/
def Met (l : Launch) (y : MethodName) (bytes : ByteArray) (maxL : Nat) (ret : Option FieldType) (wl : List Cond) (rm : Room) (Z : State) (as' : Array Value) (h0 : Heap) (n0 : Nat) (ws : List Addr) (Po : Option Value → Heap → Prop) : Prop :=
  MetFree l y (head1 (Cond.code y bytes maxL ret :: wl) rm) (fun a U => a = as' ∧ Z.Warmed39 U.vm ∧ U.heap = h0) (fun _ _ _ _ _ => True) (fun _ U o U' => ∃ v L, o = .returned v ∧ QQ h0 n0 ws Po v U'.heap L ∧ FrameEnd U o U' L rm.cells rm.slots)
def Here (p : Program) (l : Launch) (e : Env) (R : Room) (s : State) (m : MethodId) (args : Array Value) (below : List Frame) (meth : Method) (c : Code) (Z : State) (bytes : ByteArray) (maxL : Nat) (ret : Option FieldType) (own nm : String) (h0 : Heap) (n0 : Nat) (ws : List Addr)
    (T : State) (h : Heap) (cells slots : Nat) : Prop :=
  ∃ locs, Stand p l e R s m args below meth c T locs cells slots ∧ Fr n0 locs ∧ T.heap = h ∧ Old Z n0 h ∧ Keep h0 h ws ∧ p.tables.exec = Jvm.exec ∧ c.code = bytes ∧ c.maxLocals = maxL ∧ meth.sig.returnType = ret ∧ meth.locks = false ∧ s.vm.findClass own = some m.cls ∧ meth.name = nm ∧ Z.Warmed39 s.vm
section Own
variable {p : Program} {l : Launch} {e : Env} {R : Room} {s : State} {m : MethodId} {args : Array Value} {below : List Frame} {meth : Method} {c : Code} {T : State} {locs : List Loc} {cells slots : Nat} {Z : State} {a0 : Array Value} {h : Heap}
theorem own_ldcM (X : Stand p l e R s m args below meth c T locs cells slots) (hx : p.tables.exec = Jvm.exec) (hZ : Z.Warmed39 s.vm) {own C : String} {index : Nat} (hown : s.vm.findClass own = some m.cls) (w : (Cond.classLink own index C).before a0 Z = true) (eT : T.heap = h) {mr : Addr} (M : Mir Z C mr)
    {g : JFrame} (hg : g.method = m) (hd : decode c.code g.pc = .ok (.ldc index, 2)) : ∃ T', Stand p l e R s m args below meth c T' locs cells slots ∧ T'.heap = h ∧ ∀ target, Steps p.tables e below (T'.setTop { g with pc := g.pc + 2, stack := .ref mr :: g.stack }) target → Steps p.tables e below (T.setTop g) target := by
  obtain ⟨cc, kc, m1, m2, m3, -⟩ := M
  obtain ⟨k', q, ek⟩ := hZ.alike.2.2 _ _ m2
  have f1 : s.vm.findClass C = some cc := by rw [hZ.alike.findClass]; exact m1
  have f3 : k'.mirror = some mr := by rw [ek]; exact m3
  obtain ⟨vm', X', st⟩ := X.ldcMirror hx hown (mvT hZ w) (a := mr) (by simp [Term.eval, f1, q, f3]) hg hd
  exact ⟨_, X', eT, st⟩
theorem own_gcI (X : Stand p l e R s m args below meth c T locs cells slots) (hx : p.tables.exec = Jvm.exec) (hZ : Z.Warmed39 s.vm) {own C : String} {xi : MethodName} {index count : Nat} (hown : s.vm.findClass own = some m.cls)
    (w1 : (Cond.methodLink own index xi).before a0 Z = true) (w2 : (Cond.declares Jvm.Stand.gcN).before a0 Z = true) (w3 : (Cond.interfaceMethod xi.cls "java/lang/Object" xi.name xi.desc).before a0 Z = true) (w4 : (Cond.selects C xi Jvm.Stand.gcN).before a0 Z = true)
    (w5 : (Cond.instanceMethod Jvm.Stand.gcN).before a0 Z = true) (w6 : (Cond.publicMethod Jvm.Stand.gcN).before a0 Z = true) (w7 : (Cond.unhidden C xi.name xi.desc).before a0 Z = true) (w8 : (Cond.castable C xi.cls).before a0 Z = true) (w9 : (Cond.native Jvm.Stand.gcN).before a0 Z = true)
    (hxi : xi.cls ≠ "java/lang/invoke/MethodHandle" ∧ xi.cls ≠ "java/lang/invoke/VarHandle") (hxo : xi.cls ≠ "java/lang/Object") (hn1 : xi.name = "getClass") (hn2 : xi.desc = "()Ljava/lang/Class;") (eT : T.heap = h) {a : Addr} (E : Exa Z h a C) {mr : Addr} (M : Mir Z C mr)
    {g : JFrame} (hg : g.method = m) (hsize : g.locals.size = c.maxLocals) {rest : List Value} (hs : g.stack = .ref a :: rest) (hd : decode c.code g.pc = .ok (.invokeinterface index count, 5)) (hf : 1 ≤ R.frames) {W : Nat} (hW : 2 * g.monitorRoom + (rest.map fun v => v.category).sum ≤ W) (hl : W + (nativeFrameWords "java/lang/Object" "getClass" 1 + 11) ≤ R.locals) :
    ∃ T', Stand p l e R s m args below meth c T' locs cells slots ∧ T'.heap = h ∧ ∀ target, Steps p.tables e below (T'.setTop { g with pc := g.pc + 5, stack := .ref mr :: rest }) target → Steps p.tables e below (T.setTop g) target := by
  obtain ⟨cB, kB, i1, i2, i3⟩ := isOf hZ eT E
  obtain ⟨cc, kc, m1, m2, m3, -⟩ := M
  rw [hZ.alike.findClass] at i1
  cases i1.symm.trans m1
  obtain ⟨k', q, ek⟩ := hZ.alike.2.2 _ _ m2
  obtain ⟨vm', X', st⟩ := X.getClassOfI hx hown (mvT hZ w1) (mvT hZ w2) (Jvm.Free.ULB.iface_rides hZ.alike w3) (mvT hZ w4) (mvT hZ w5) (mvT hZ w6) (mvT hZ w7) (mvT hZ w8) (mvT hZ w9) hxi hxo hn1 hn2 (by rw [hZ.alike.findClass]; exact m1) q i3 (by rw [ek]; exact m3) hg hsize hs hd hf (by omega)
  exact ⟨_, X', eT, st⟩
theorem own_nfZ {C : String} {x y z : MethodName} (w : (Cond.selects C x z).before a0 Z = true) (hc : z.cls = y.cls) : ∀ s' : State, Z.Warmed39 s'.vm → NotFace s' y := fun s' hz r0 hn => by
  have w' : (Cond.selects C x z).before #[] s' = true := mvT hz w
  obtain ⟨c2, r2, m2, q1, q2, q3, q4, mk, k1, k2⟩ := Cond.selects_spec w'
  have e1 := findClass_of_methodNamed q3
  have e2 := findClass_of_methodNamed hn
  rw [hc] at e1
  have e3 : m2.cls = r0.cls := Option.some.inj (e1.symm.trans e2)
  exact ⟨mk, e3 ▸ k1, k2⟩
theorem own_decl {y : MethodName} {bytes : ByteArray} {maxL : Nat} {ret : Option FieldType} (w : (Cond.instanceMethod y).before a0 Z = true) (wc : (Cond.code y bytes maxL ret).before a0 Z = true) : (Cond.declares y).before a0 Z = true := by
  obtain ⟨m, meth, hn, hm, hst, -⟩ := Cond.instanceMethod_spec w
  obtain ⟨m2, cM, q1, -, -, -, -, -, -, hsig⟩ := Cond.code_spec hn wc
  cases hm.symm.trans q1
  simp [Cond.before, Cond.holds, Cond.value, hn, hm, hst, hsig]
end Own
section Kit
variable {p : Program} {l : Launch} {e : Env} {R : Room} {s : State} {m : MethodId} {args : Array Value} {below : List Frame} {meth : Method} {c : Code} {Z : State} {bytes : ByteArray} {maxL : Nat} {ret : Option FieldType} {own nm : String} {h0 : Heap} {n0 : Nat} {ws : List Addr} {T : State} {h : Heap} {cells slots : Nat} {P : Outcome → State → Prop} {pc : Nat} (pc' : Nat) {Ls : Array Slot} {st rest : List Value} {a0 : Array Value}
theorem met_intro {y : MethodName} {wl : List Cond} {as' : Array Value} {Po : Option Value → Heap → Prop} (hpn : plainFor y = true) (hc0 : y.cls = own) (hn0 : y.name = nm) (O : Old Z n0 h0)
    (body : ∀ p e s m below meth c s₁, Here p l e R s m as' below meth c Z bytes maxL ret own nm h0 n0 ws s₁ h0 0 0 → Go p.tables e below (PO s R h0 n0 ws Po) (s₁.setTop (entryFrame m as' maxL))) : Met l y bytes maxL ret wl R Z as' h0 n0 ws Po := by
  subst hc0 hn0
  refine MetFree.of_bodySF hpn hisR ?_
  intro p e s m args below meth c s₁ Bd hml0 hP hK
  obtain ⟨rfl, hZ, hh⟩ := hP
  have e0 : s₁.heap = h0 := by rw [← hh, Bd.state]; rfl
  exact body p e s m below meth c s₁ ⟨[], Stand.of_body Bd, Fr.nil n0, e0, O, Keep.refl h0 ws, Bd.exec, Bd.bytes, hml0, Bd.returns, BodyLoose.notSynchronized Bd, findClass_of_methodNamed Bd.named, (name_of_methodNamed Bd.named Bd.method).1, hZ⟩
theorem Here.old (X : Here p l e R s m args below meth c Z bytes maxL ret own nm h0 n0 ws T h cells slots) : Old Z n0 h := by obtain ⟨_, _, _, _, q, _⟩ := X; exact q
theorem Here.keep (X : Here p l e R s m args below meth c Z bytes maxL ret own nm h0 n0 ws T h cells slots) : Keep h0 h ws := by obtain ⟨_, _, _, _, _, q, _⟩ := X; exact q
theorem Here.zv (X : Here p l e R s m args below meth c Z bytes maxL ret own nm h0 n0 ws T h cells slots) : Z.Warmed39 s.vm := by obtain ⟨_, _, _, _, _, _, _, _, _, _, _, _, _, q⟩ := X; exact q
theorem Here.n0le (X : Here p l e R s m args below meth c Z bytes maxL ret own nm h0 n0 ws T h cells slots) : n0 ≤ h.size := by have q := X.old; rw [← q.1]; exact q.2.1
theorem oI {k : Fin 4} {v : Int32} (X : Here p l e R s m args below meth c Z bytes maxL ret own nm h0 n0 ws T h cells slots) (hd : decode bytes pc = .ok (.iload_n k, 1)) (hp : pc + 1 = pc') (hl : Ls[k.val]? = some (.val (.int v)))
    (k : Go p.tables e below P (T.setTop (mkF m pc' Ls (.int v :: st)))) : Go p.tables e below P (T.setTop (mkF m pc Ls st)) := by
  obtain ⟨locs, Y, N, eT, O, K, hx, hby, hml, hret, hlk, hown, hnm, hZ⟩ := X
  subst hp
  exact Go.go (fun t q => XS.iloadN Y.here hx rfl (hb hby hd) hl q) k
theorem oi {k : Nat} {v : Int32} (X : Here p l e R s m args below meth c Z bytes maxL ret own nm h0 n0 ws T h cells slots) (hd : decode bytes pc = .ok (.iload k, 2)) (hp : pc + 2 = pc') (hl : Ls[k]? = some (.val (.int v)))
    (k : Go p.tables e below P (T.setTop (mkF m pc' Ls (.int v :: st)))) : Go p.tables e below P (T.setTop (mkF m pc Ls st)) := by
  obtain ⟨locs, Y, N, eT, O, K, hx, hby, hml, hret, hlk, hown, hnm, hZ⟩ := X
  subst hp
  exact Go.go (fun t q => XS.iload Y.here hx rfl (hb hby hd) hl q) k
theorem o_aloadN {k : Fin 4} {v : Value} (X : Here p l e R s m args below meth c Z bytes maxL ret own nm h0 n0 ws T h cells slots) (hd : decode bytes pc = .ok (.aload_n k, 1)) (hp : pc + 1 = pc') (hl : Ls[k.val]? = some (.val v)) (hv : v.isRef = true)
    (k : Go p.tables e below P (T.setTop (mkF m pc' Ls (v :: st)))) : Go p.tables e below P (T.setTop (mkF m pc Ls st)) := by
  obtain ⟨locs, Y, N, eT, O, K, hx, hby, hml, hret, hlk, hown, hnm, hZ⟩ := X
  subst hp
  exact Go.go (fun t q => XS.aloadN Y.here hx rfl (hb hby hd) hl hv q) k
theorem o_aload {k : Nat} {v : Value} (X : Here p l e R s m args below meth c Z bytes maxL ret own nm h0 n0 ws T h cells slots) (hd : decode bytes pc = .ok (.aload k, 2)) (hp : pc + 2 = pc') (hl : Ls[k]? = some (.val v)) (hv : v.isRef = true)
    (k : Go p.tables e below P (T.setTop (mkF m pc' Ls (v :: st)))) : Go p.tables e below P (T.setTop (mkF m pc Ls st)) := by
  obtain ⟨locs, Y, N, eT, O, K, hx, hby, hml, hret, hlk, hown, hnm, hZ⟩ := X
  subst hp
  exact Go.go (fun t q => XS.aload Y.here hx rfl (hb hby hd) hl hv q) k
theorem oT {k : Fin 4} {x : Int32} {l' : Array Slot} (X : Here p l e R s m args below meth c Z bytes maxL ret own nm h0 n0 ws T h cells slots) (hd : decode bytes pc = .ok (.istore_n k, 1)) (hp : pc + 1 = pc') (hl : storeLocals Ls k.val (.int x) = some l')
    (k : Go p.tables e below P (T.setTop (mkF m pc' l' st))) : Go p.tables e below P (T.setTop (mkF m pc Ls (.int x :: st))) := by
  obtain ⟨locs, Y, N, eT, O, K, hx, hby, hml, hret, hlk, hown, hnm, hZ⟩ := X
  subst hp
  exact Go.go (fun t q => XS.istoreN Y.here hx rfl (hb hby hd) rfl hl q) k
theorem oS {k : Nat} {x : Int32} {l' : Array Slot} (X : Here p l e R s m args below meth c Z bytes maxL ret own nm h0 n0 ws T h cells slots) (hd : decode bytes pc = .ok (.istore k, 2)) (hp : pc + 2 = pc') (hl : storeLocals Ls k (.int x) = some l')
    (k : Go p.tables e below P (T.setTop (mkF m pc' l' st))) : Go p.tables e below P (T.setTop (mkF m pc Ls (.int x :: st))) := by
  obtain ⟨locs, Y, N, eT, O, K, hx, hby, hml, hret, hlk, hown, hnm, hZ⟩ := X
  subst hp
  exact Go.go (fun t q => XS.istore Y.here hx rfl (hb hby hd) rfl hl q) k
theorem oV {k : Fin 4} {v : Value} {l' : Array Slot} (X : Here p l e R s m args below meth c Z bytes maxL ret own nm h0 n0 ws T h cells slots) (hd : decode bytes pc = .ok (.astore_n k, 1)) (hp : pc + 1 = pc') (hv : v.isRef = true) (hl : storeLocals Ls k.val v = some l')
    (k : Go p.tables e below P (T.setTop (mkF m pc' l' st))) : Go p.tables e below P (T.setTop (mkF m pc Ls (v :: st))) := by
  obtain ⟨locs, Y, N, eT, O, K, hx, hby, hml, hret, hlk, hown, hnm, hZ⟩ := X
  subst hp
  exact Go.go (fun t q => XS.astoreN Y.here hx rfl (hb hby hd) rfl hv hl q) k
theorem oU {k : Nat} {v : Value} {l' : Array Slot} (X : Here p l e R s m args below meth c Z bytes maxL ret own nm h0 n0 ws T h cells slots) (hd : decode bytes pc = .ok (.astore k, 2)) (hp : pc + 2 = pc') (hv : v.isRef = true) (hl : storeLocals Ls k v = some l')
    (k : Go p.tables e below P (T.setTop (mkF m pc' l' st))) : Go p.tables e below P (T.setTop (mkF m pc Ls (v :: st))) := by
  obtain ⟨locs, Y, N, eT, O, K, hx, hby, hml, hret, hlk, hown, hnm, hZ⟩ := X
  subst hp
  exact Go.go (fun t q => XS.astore Y.here hx rfl (hb hby hd) rfl hv hl q) k
theorem oc {i : Int} {v : Int32} (X : Here p l e R s m args below meth c Z bytes maxL ret own nm h0 n0 ws T h cells slots) (hd : decode bytes pc = .ok (.iconst i, 1)) (hp : pc + 1 = pc') (hv : Int32.ofInt i = v)
    (k : Go p.tables e below P (T.setTop (mkF m pc' Ls (.int v :: st)))) : Go p.tables e below P (T.setTop (mkF m pc Ls st)) := by
  obtain ⟨locs, Y, N, eT, O, K, hx, hby, hml, hret, hlk, hown, hnm, hZ⟩ := X
  subst hp hv
  exact Go.go (fun t q => XS.iconst Y.here hx rfl (hb hby hd) q) k
theorem ob {i : Int} {v : Int32} (X : Here p l e R s m args below meth c Z bytes maxL ret own nm h0 n0 ws T h cells slots) (hd : decode bytes pc = .ok (.bipush i, 2)) (hp : pc + 2 = pc') (hv : (Int8.ofInt i).toInt32 = v)
    (k : Go p.tables e below P (T.setTop (mkF m pc' Ls (.int v :: st)))) : Go p.tables e below P (T.setTop (mkF m pc Ls st)) := by
  obtain ⟨locs, Y, N, eT, O, K, hx, hby, hml, hret, hlk, hown, hnm, hZ⟩ := X
  subst hp hv
  exact Go.go (fun t q => XS.bipush Y.here hx rfl (hb hby hd) q) k
theorem o_sipush {i : Int} {v : Int32} (X : Here p l e R s m args below meth c Z bytes maxL ret own nm h0 n0 ws T h cells slots) (hd : decode bytes pc = .ok (.sipush i, 3)) (hp : pc + 3 = pc') (hv : (Int16.ofInt i).toInt32 = v)
    (k : Go p.tables e below P (T.setTop (mkF m pc' Ls (.int v :: st)))) : Go p.tables e below P (T.setTop (mkF m pc Ls st)) := by
  obtain ⟨locs, Y, N, eT, O, K, hx, hby, hml, hret, hlk, hown, hnm, hZ⟩ := X
  subst hp hv
  exact Go.go (fun t q => XS.sipush Y.here hx rfl (hb hby hd) q) k
theorem o_aconstNull  (X : Here p l e R s m args below meth c Z bytes maxL ret own nm h0 n0 ws T h cells slots) (hd : decode bytes pc = .ok (.aconst_null, 1)) (hp : pc + 1 = pc') 
    (k : Go p.tables e below P (T.setTop (mkF m pc' Ls (.null :: st)))) : Go p.tables e below P (T.setTop (mkF m pc Ls st)) := by
  obtain ⟨locs, Y, N, eT, O, K, hx, hby, hml, hret, hlk, hown, hnm, hZ⟩ := X
  subst hp
  exact Go.go (fun t q => XS.aconstNull Y.here hx rfl (hb hby hd)  q) k
theorem o_iadd {x y : Int32} {v : Int32} (X : Here p l e R s m args below meth c Z bytes maxL ret own nm h0 n0 ws T h cells slots) (hd : decode bytes pc = .ok (.iadd, 1)) (hp : pc + 1 = pc')  (hv : x + y = v)
    (k : Go p.tables e below P (T.setTop (mkF m pc' Ls (.int v :: st)))) : Go p.tables e below P (T.setTop (mkF m pc Ls (.int y :: .int x :: st))) := by
  obtain ⟨locs, Y, N, eT, O, K, hx, hby, hml, hret, hlk, hown, hnm, hZ⟩ := X
  subst hp hv
  exact Go.go (fun t q => XS.iadd Y.here hx rfl (hb hby hd) rfl q) k
theorem o_isub {x y : Int32} {v : Int32} (X : Here p l e R s m args below meth c Z bytes maxL ret own nm h0 n0 ws T h cells slots) (hd : decode bytes pc = .ok (.isub, 1)) (hp : pc + 1 = pc')  (hv : x - y = v)
    (k : Go p.tables e below P (T.setTop (mkF m pc' Ls (.int v :: st)))) : Go p.tables e below P (T.setTop (mkF m pc Ls (.int y :: .int x :: st))) := by
  obtain ⟨locs, Y, N, eT, O, K, hx, hby, hml, hret, hlk, hown, hnm, hZ⟩ := X
  subst hp hv
  exact Go.go (fun t q => XS.isub Y.here hx rfl (hb hby hd) rfl q) k
theorem o_imul {x y : Int32} {v : Int32} (X : Here p l e R s m args below meth c Z bytes maxL ret own nm h0 n0 ws T h cells slots) (hd : decode bytes pc = .ok (.imul, 1)) (hp : pc + 1 = pc')  (hv : x * y = v)
    (k : Go p.tables e below P (T.setTop (mkF m pc' Ls (.int v :: st)))) : Go p.tables e below P (T.setTop (mkF m pc Ls (.int y :: .int x :: st))) := by
  obtain ⟨locs, Y, N, eT, O, K, hx, hby, hml, hret, hlk, hown, hnm, hZ⟩ := X
  subst hp hv
  exact Go.go (fun t q => XS.imul Y.here hx rfl (hb hby hd) rfl q) k
theorem o_iand {x y : Int32} {v : Int32} (X : Here p l e R s m args below meth c Z bytes maxL ret own nm h0 n0 ws T h cells slots) (hd : decode bytes pc = .ok (.iand, 1)) (hp : pc + 1 = pc')  (hv : x &&& y = v)
    (k : Go p.tables e below P (T.setTop (mkF m pc' Ls (.int v :: st)))) : Go p.tables e below P (T.setTop (mkF m pc Ls (.int y :: .int x :: st))) := by
  obtain ⟨locs, Y, N, eT, O, K, hx, hby, hml, hret, hlk, hown, hnm, hZ⟩ := X
  subst hp hv
  exact Go.go (fun t q => XS.iand Y.here hx rfl (hb hby hd) rfl q) k
theorem o_ixor {x y : Int32} {v : Int32} (X : Here p l e R s m args below meth c Z bytes maxL ret own nm h0 n0 ws T h cells slots) (hd : decode bytes pc = .ok (.ixor, 1)) (hp : pc + 1 = pc')  (hv : x ^^^ y = v)
    (k : Go p.tables e below P (T.setTop (mkF m pc' Ls (.int v :: st)))) : Go p.tables e below P (T.setTop (mkF m pc Ls (.int y :: .int x :: st))) := by
  obtain ⟨locs, Y, N, eT, O, K, hx, hby, hml, hret, hlk, hown, hnm, hZ⟩ := X
  subst hp hv
  exact Go.go (fun t q => XS.ixor Y.here hx rfl (hb hby hd) rfl q) k
theorem o_iushr {x y : Int32} {v : Int32} (X : Here p l e R s m args below meth c Z bytes maxL ret own nm h0 n0 ws T h cells slots) (hd : decode bytes pc = .ok (.iushr, 1)) (hp : pc + 1 = pc')  (hv : (x.toUInt32 >>> (y &&& 31).toUInt32).toInt32 = v)
    (k : Go p.tables e below P (T.setTop (mkF m pc' Ls (.int v :: st)))) : Go p.tables e below P (T.setTop (mkF m pc Ls (.int y :: .int x :: st))) := by
  obtain ⟨locs, Y, N, eT, O, K, hx, hby, hml, hret, hlk, hown, hnm, hZ⟩ := X
  subst hp hv
  exact Go.go (fun t q => XS.iushr Y.here hx rfl (hb hby hd) rfl q) k
theorem o_i2b {x : Int32} {v : Int32} (X : Here p l e R s m args below meth c Z bytes maxL ret own nm h0 n0 ws T h cells slots) (hd : decode bytes pc = .ok (.i2b, 1)) (hp : pc + 1 = pc')  (hv : x.toInt8.toInt32 = v)
    (k : Go p.tables e below P (T.setTop (mkF m pc' Ls (.int v :: st)))) : Go p.tables e below P (T.setTop (mkF m pc Ls (.int x :: st))) := by
  obtain ⟨locs, Y, N, eT, O, K, hx, hby, hml, hret, hlk, hown, hnm, hZ⟩ := X
  subst hp hv
  exact Go.go (fun t q => XS.i2b Y.here hx rfl (hb hby hd) rfl q) k
theorem o_i2c {x : Int32} {v : Int32} (X : Here p l e R s m args below meth c Z bytes maxL ret own nm h0 n0 ws T h cells slots) (hd : decode bytes pc = .ok (.i2c, 1)) (hp : pc + 1 = pc')  (hv : x.toUInt32.toUInt16.toUInt32.toInt32 = v)
    (k : Go p.tables e below P (T.setTop (mkF m pc' Ls (.int v :: st)))) : Go p.tables e below P (T.setTop (mkF m pc Ls (.int x :: st))) := by
  obtain ⟨locs, Y, N, eT, O, K, hx, hby, hml, hret, hlk, hown, hnm, hZ⟩ := X
  subst hp hv
  exact Go.go (fun t q => XS.i2c Y.here hx rfl (hb hby hd) rfl q) k
theorem oJ (y : Int32) (l' : Array Slot) {k : Nat} {i : Int} {x : Int32} (X : Here p l e R s m args below meth c Z bytes maxL ret own nm h0 n0 ws T h cells slots) (hd : decode bytes pc = .ok (.iinc k i, 3)) (hp : pc + 3 = pc') (hl : Ls[k]? = some (.val (.int x))) (hy : x + Int32.ofInt i = y) (hl' : storeLocals Ls k (.int y) = some l')
    (k : Go p.tables e below P (T.setTop (mkF m pc' l' st))) : Go p.tables e below P (T.setTop (mkF m pc Ls st)) := by
  obtain ⟨locs, Y, N, eT, O, K, hx, hby, hml, hret, hlk, hown, hnm, hZ⟩ := X
  subst hp
  exact Go.go (fun t q => XS.iinc Y.here hx rfl (hb hby hd) hl (hy ▸ hl') q) k
theorem oA {k : Fin 4} {a : Addr} (X : Here p l e R s m args below meth c Z bytes maxL ret own nm h0 n0 ws T h cells slots) (hd : decode bytes pc = .ok (.aload_n k, 1)) (hp : pc + 1 = pc') (hl : Ls[k.val]? = some (.val (.ref a)))
    (k' : Go p.tables e below P (T.setTop (mkF m pc' Ls (.ref a :: st)))) : Go p.tables e below P (T.setTop (mkF m pc Ls st)) := o_aloadN pc' X hd hp hl rfl k'
theorem oa {k : Nat} {a : Addr} (X : Here p l e R s m args below meth c Z bytes maxL ret own nm h0 n0 ws T h cells slots) (hd : decode bytes pc = .ok (.aload k, 2)) (hp : pc + 2 = pc') (hl : Ls[k]? = some (.val (.ref a)))
    (k' : Go p.tables e below P (T.setTop (mkF m pc' Ls (.ref a :: st)))) : Go p.tables e below P (T.setTop (mkF m pc Ls st)) := o_aload pc' X hd hp hl rfl k'
theorem oD {x : Value} (X : Here p l e R s m args below meth c Z bytes maxL ret own nm h0 n0 ws T h cells slots) (hd : decode bytes pc = .ok (.dup, 1)) (hp : pc + 1 = pc') (hc : x.category = 1)
    (k : Go p.tables e below P (T.setTop (mkF m pc' Ls (x :: x :: st)))) : Go p.tables e below P (T.setTop (mkF m pc Ls (x :: st))) := by
  obtain ⟨locs, Y, N, eT, O, K, hx, hby, hml, hret, hlk, hown, hnm, hZ⟩ := X
  subst hp
  exact Go.go (fun t q => XS.dup Y.here hx rfl (hb hby hd) rfl hc q) k
theorem o_pop {x : Value} (X : Here p l e R s m args below meth c Z bytes maxL ret own nm h0 n0 ws T h cells slots) (hd : decode bytes pc = .ok (.pop, 1)) (hp : pc + 1 = pc') (hc : x.category = 1)
    (k : Go p.tables e below P (T.setTop (mkF m pc' Ls st))) : Go p.tables e below P (T.setTop (mkF m pc Ls (x :: st))) := by
  obtain ⟨locs, Y, N, eT, O, K, hx, hby, hml, hret, hlk, hown, hnm, hZ⟩ := X
  subst hp
  exact Go.go (fun t q => XS.pop Y.here hx rfl (hb hby hd) rfl hc q) k
theorem o_dupX1 {x y : Value} (X : Here p l e R s m args below meth c Z bytes maxL ret own nm h0 n0 ws T h cells slots) (hd : decode bytes pc = .ok (.dup_x1, 1)) (hp : pc + 1 = pc') (hc : x.category = 1) (hc' : y.category = 1)
    (k : Go p.tables e below P (T.setTop (mkF m pc' Ls (x :: y :: x :: st)))) : Go p.tables e below P (T.setTop (mkF m pc Ls (x :: y :: st))) := by
  obtain ⟨locs, Y, N, eT, O, K, hx, hby, hml, hret, hlk, hown, hnm, hZ⟩ := X
  subst hp
  exact Go.go (fun t q => XS.dupX1 Y.here hx rfl (hb hby hd) rfl hc hc' q) k
theorem o_goto  {o : Int} (X : Here p l e R s m args below meth c Z bytes maxL ret own nm h0 n0 ws T h cells slots) (hd : decode bytes pc = .ok (.goto o, 3)) (ho : 0 ≤ (pc : Int) + o) (hp : ((pc : Int) + o).toNat = pc') 
    (k : Go p.tables e below P (T.setTop (mkF m pc' Ls st))) : Go p.tables e below P (T.setTop (mkF m pc Ls st)) := by
  obtain ⟨locs, Y, N, eT, O, K, hx, hby, hml, hret, hlk, hown, hnm, hZ⟩ := X
  exact Go.go (fun t q => XS.goto Y.here hx rfl (pc0 := pc) (pc' := pc') rfl (hb hby hd)  ho hp q) k
theorem og  {o : Int} (X : Here p l e R s m args below meth c Z bytes maxL ret own nm h0 n0 ws T h cells slots) (hd : decode bytes pc = .ok (.goto o, 3)) (hj : 0 ≤ (pc : Int) + o ∧ ((pc : Int) + o).toNat = pc') 
    (k : Go p.tables e below P (T.setTop (mkF m pc' Ls st))) : Go p.tables e below P (T.setTop (mkF m pc Ls st)) := o_goto pc' X hd hj.1 hj.2  k
theorem o_ifYes {cd : ClassFile.Cond} {x : Int32} {o : Int} (X : Here p l e R s m args below meth c Z bytes maxL ret own nm h0 n0 ws T h cells slots) (hd : decode bytes pc = .ok (.ifCond cd o, 3)) (ho : 0 ≤ (pc : Int) + o) (hp : ((pc : Int) + o).toNat = pc') (hc : ifCond.holds cd x = true)
    (k : Go p.tables e below P (T.setTop (mkF m pc' Ls st))) : Go p.tables e below P (T.setTop (mkF m pc Ls (.int x :: st))) := by
  obtain ⟨locs, Y, N, eT, O, K, hx, hby, hml, hret, hlk, hown, hnm, hZ⟩ := X
  exact Go.go (fun t q => XS.ifYes Y.here hx rfl (pc0 := pc) (pc' := pc') rfl (hb hby hd) rfl hc ho hp q) k
theorem oy {cd : ClassFile.Cond} {x : Int32} {o : Int} (X : Here p l e R s m args below meth c Z bytes maxL ret own nm h0 n0 ws T h cells slots) (hd : decode bytes pc = .ok (.ifCond cd o, 3)) (hj : 0 ≤ (pc : Int) + o ∧ ((pc : Int) + o).toNat = pc') (hc : ifCond.holds cd x = true)
    (k : Go p.tables e below P (T.setTop (mkF m pc' Ls st))) : Go p.tables e below P (T.setTop (mkF m pc Ls (.int x :: st))) := o_ifYes pc' X hd hj.1 hj.2 hc k
theorem on {cd : ClassFile.Cond} {x : Int32} {o : Int} (X : Here p l e R s m args below meth c Z bytes maxL ret own nm h0 n0 ws T h cells slots) (hd : decode bytes pc = .ok (.ifCond cd o, 3)) (hp : pc + 3 = pc') (hc : ifCond.holds cd x = false)
    (k : Go p.tables e below P (T.setTop (mkF m pc' Ls st))) : Go p.tables e below P (T.setTop (mkF m pc Ls (.int x :: st))) := by
  obtain ⟨locs, Y, N, eT, O, K, hx, hby, hml, hret, hlk, hown, hnm, hZ⟩ := X
  subst hp
  exact Go.go (fun t q => XS.ifNo Y.here hx rfl (hb hby hd) rfl hc q) k
theorem o_icmpYes {cd : ClassFile.Cond} {x y : Int32} {o : Int} (X : Here p l e R s m args below meth c Z bytes maxL ret own nm h0 n0 ws T h cells slots) (hd : decode bytes pc = .ok (.if_icmp cd o, 3)) (ho : 0 ≤ (pc : Int) + o) (hp : ((pc : Int) + o).toNat = pc') (hc : if_icmp.holds cd x y = true)
    (k : Go p.tables e below P (T.setTop (mkF m pc' Ls st))) : Go p.tables e below P (T.setTop (mkF m pc Ls (.int y :: .int x :: st))) := by
  obtain ⟨locs, Y, N, eT, O, K, hx, hby, hml, hret, hlk, hown, hnm, hZ⟩ := X
  exact Go.go (fun t q => XS.icmpYes Y.here hx rfl (pc0 := pc) (pc' := pc') rfl (hb hby hd) rfl hc ho hp q) k
theorem oY {cd : ClassFile.Cond} {x y : Int32} {o : Int} (X : Here p l e R s m args below meth c Z bytes maxL ret own nm h0 n0 ws T h cells slots) (hd : decode bytes pc = .ok (.if_icmp cd o, 3)) (hj : 0 ≤ (pc : Int) + o ∧ ((pc : Int) + o).toNat = pc') (hc : if_icmp.holds cd x y = true)
    (k : Go p.tables e below P (T.setTop (mkF m pc' Ls st))) : Go p.tables e below P (T.setTop (mkF m pc Ls (.int y :: .int x :: st))) := o_icmpYes pc' X hd hj.1 hj.2 hc k
theorem oN {cd : ClassFile.Cond} {x y : Int32} {o : Int} (X : Here p l e R s m args below meth c Z bytes maxL ret own nm h0 n0 ws T h cells slots) (hd : decode bytes pc = .ok (.if_icmp cd o, 3)) (hp : pc + 3 = pc') (hc : if_icmp.holds cd x y = false)
    (k : Go p.tables e below P (T.setTop (mkF m pc' Ls st))) : Go p.tables e below P (T.setTop (mkF m pc Ls (.int y :: .int x :: st))) := by
  obtain ⟨locs, Y, N, eT, O, K, hx, hby, hml, hret, hlk, hown, hnm, hZ⟩ := X
  subst hp
  exact Go.go (fun t q => XS.icmpNo Y.here hx rfl (hb hby hd) rfl hc q) k
theorem o_ifnullYes  {o : Int} (X : Here p l e R s m args below meth c Z bytes maxL ret own nm h0 n0 ws T h cells slots) (hd : decode bytes pc = .ok (.ifnull o, 3)) (ho : 0 ≤ (pc : Int) + o) (hp : ((pc : Int) + o).toNat = pc') 
    (k : Go p.tables e below P (T.setTop (mkF m pc' Ls st))) : Go p.tables e below P (T.setTop (mkF m pc Ls (.null :: st))) := by
  obtain ⟨locs, Y, N, eT, O, K, hx, hby, hml, hret, hlk, hown, hnm, hZ⟩ := X
  exact Go.go (fun t q => XS.ifnullYes Y.here hx rfl (pc0 := pc) (pc' := pc') rfl (hb hby hd) rfl  ho hp q) k
theorem ifnullYesJ  {o : Int} (X : Here p l e R s m args below meth c Z bytes maxL ret own nm h0 n0 ws T h cells slots) (hd : decode bytes pc = .ok (.ifnull o, 3)) (hj : 0 ≤ (pc : Int) + o ∧ ((pc : Int) + o).toNat = pc') 
    (k : Go p.tables e below P (T.setTop (mkF m pc' Ls st))) : Go p.tables e below P (T.setTop (mkF m pc Ls (.null :: st))) := o_ifnullYes pc' X hd hj.1 hj.2  k
theorem o_ifnullNo {b : Addr} {o : Int} (X : Here p l e R s m args below meth c Z bytes maxL ret own nm h0 n0 ws T h cells slots) (hd : decode bytes pc = .ok (.ifnull o, 3)) (hp : pc + 3 = pc') 
    (k : Go p.tables e below P (T.setTop (mkF m pc' Ls st))) : Go p.tables e below P (T.setTop (mkF m pc Ls (.ref b :: st))) := by
  obtain ⟨locs, Y, N, eT, O, K, hx, hby, hml, hret, hlk, hown, hnm, hZ⟩ := X
  subst hp
  exact Go.go (fun t q => XS.ifnullNo Y.here hx rfl (hb hby hd) rfl  q) k
theorem o_ifnonnullYes {b : Addr} {o : Int} (X : Here p l e R s m args below meth c Z bytes maxL ret own nm h0 n0 ws T h cells slots) (hd : decode bytes pc = .ok (.ifnonnull o, 3)) (ho : 0 ≤ (pc : Int) + o) (hp : ((pc : Int) + o).toNat = pc') 
    (k : Go p.tables e below P (T.setTop (mkF m pc' Ls st))) : Go p.tables e below P (T.setTop (mkF m pc Ls (.ref b :: st))) := by
  obtain ⟨locs, Y, N, eT, O, K, hx, hby, hml, hret, hlk, hown, hnm, hZ⟩ := X
  exact Go.go (fun t q => XS.ifnonnullYes Y.here hx rfl (pc0 := pc) (pc' := pc') rfl (hb hby hd) rfl  ho hp q) k
theorem ifnonnullYesJ {b : Addr} {o : Int} (X : Here p l e R s m args below meth c Z bytes maxL ret own nm h0 n0 ws T h cells slots) (hd : decode bytes pc = .ok (.ifnonnull o, 3)) (hj : 0 ≤ (pc : Int) + o ∧ ((pc : Int) + o).toNat = pc') 
    (k : Go p.tables e below P (T.setTop (mkF m pc' Ls st))) : Go p.tables e below P (T.setTop (mkF m pc Ls (.ref b :: st))) := o_ifnonnullYes pc' X hd hj.1 hj.2  k
theorem o_ifnonnullNo  {o : Int} (X : Here p l e R s m args below meth c Z bytes maxL ret own nm h0 n0 ws T h cells slots) (hd : decode bytes pc = .ok (.ifnonnull o, 3)) (hp : pc + 3 = pc') 
    (k : Go p.tables e below P (T.setTop (mkF m pc' Ls st))) : Go p.tables e below P (T.setTop (mkF m pc Ls (.null :: st))) := by
  obtain ⟨locs, Y, N, eT, O, K, hx, hby, hml, hret, hlk, hown, hnm, hZ⟩ := X
  subst hp
  exact Go.go (fun t q => XS.ifnonnullNo Y.here hx rfl (hb hby hd) rfl  q) k
theorem o_acmp {cd : ACond} {x y : Value} {o : Int} {same : Bool} (X : Here p l e R s m args below meth c Z bytes maxL ret own nm h0 n0 ws T h cells slots) (hd : decode bytes pc = .ok (.if_acmp cd o, 3)) (h1 : x.isRef = true) (h2 : y.isRef = true) (hq : decide (x = y) = same) (ho : 0 ≤ (pc : Int) + o) (hp : pc' = if acV cd same = true then ((pc : Int) + o).toNat else pc + 3)
    (k : Go p.tables e below P (T.setTop (mkF m pc' Ls st))) : Go p.tables e below P (T.setTop (mkF m pc Ls (y :: x :: st))) := by
  obtain ⟨locs, Y, N, eT, O, K, hx, hby, hml, hret, hlk, hown, hnm, hZ⟩ := X
  exact Go.go (fun t q => RoadKit.acmp (g := mkF m pc Ls (y :: x :: st)) Y hx rfl h1 h2 (pc0 := pc) (pc' := pc') rfl (hb hby hd) rfl hq ho hp q) k
theorem oF {R0 O n d : String} {index : Nat} {a : Addr} {v : Value} (X : Here p l e R s m args below meth c Z bytes maxL ret own nm h0 n0 ws T h cells slots) (w : (Cond.fieldLink own index R0 n d).before a0 Z = true) (via : Via Z R0 O n d) (F : Fld Z h a O n d v) (hd : decode bytes pc = .ok (.getfield index, 3)) (hp : pc + 3 = pc')
    (k : ∀ T', Here p l e R s m args below meth c Z bytes maxL ret own nm h0 n0 ws T' h cells slots → Go p.tables e below P (T'.setTop (mkF m pc' Ls (v :: st)))) : Go p.tables e below P (T.setTop (mkF m pc Ls (.ref a :: st))) := by
  obtain ⟨locs, Y, N, eT, O, K, hx, hby, hml, hret, hlk, hown, hnm, hZ⟩ := X
  subst hp
  obtain ⟨T', Y', e', st'⟩ := RoadKit.getF Y hx hZ hown (host := "") (Or.inl w) via eT F (g := mkF m pc Ls (.ref a :: st)) rfl rfl (hb hby hd)
  exact Go.go st' (k T' ⟨locs, Y', N, e', O, K, hx, hby, hml, hret, hlk, hown, hnm, hZ⟩)
theorem oG {R0 O n d : String} {index : Nat} {v : Value} (X : Here p l e R s m args below meth c Z bytes maxL ret own nm h0 n0 ws T h cells slots) (w : (Cond.fieldLink own index R0 n d).before a0 Z = true) (via : Via Z R0 O n d) (F : Sta Z h O n d v) (hd : decode bytes pc = .ok (.getstatic index, 3)) (hp : pc + 3 = pc')
    (k : ∀ T', Here p l e R s m args below meth c Z bytes maxL ret own nm h0 n0 ws T' h cells slots → Go p.tables e below P (T'.setTop (mkF m pc' Ls (v :: st)))) : Go p.tables e below P (T.setTop (mkF m pc Ls st)) := by
  obtain ⟨locs, Y, N, eT, O, K, hx, hby, hml, hret, hlk, hown, hnm, hZ⟩ := X
  subst hp
  obtain ⟨T', Y', e', st'⟩ := getS2 Y hx hZ hown (host := "") (Or.inl w) via eT F (g := mkF m pc Ls st) rfl (hb hby hd)
  exact Go.go st' (k T' ⟨locs, Y', N, e', O, K, hx, hby, hml, hret, hlk, hown, hnm, hZ⟩)
theorem o_castY {K' : String} {index : Nat} {a : Addr} (X : Here p l e R s m args below meth c Z bytes maxL ret own nm h0 n0 ws T h cells slots) (w : (Cond.classLink own index K').before a0 Z = true) (F : Ins Z h a K' true) (hd : decode bytes pc = .ok (.checkcast index, 3)) (hp : pc + 3 = pc')
    (k : ∀ T', Here p l e R s m args below meth c Z bytes maxL ret own nm h0 n0 ws T' h cells slots → Go p.tables e below P (T'.setTop (mkF m pc' Ls (.ref a :: st)))) : Go p.tables e below P (T.setTop (mkF m pc Ls (.ref a :: st))) := by
  obtain ⟨locs, Y, N, eT, O, K, hx, hby, hml, hret, hlk, hown, hnm, hZ⟩ := X
  subst hp
  obtain ⟨T', Y', e', st'⟩ := RoadKit.castY Y hx hZ hown w eT F (g := mkF m pc Ls (.ref a :: st)) rfl rfl (hb hby hd)
  exact Go.go st' (k T' ⟨locs, Y', N, e', O, K, hx, hby, hml, hret, hlk, hown, hnm, hZ⟩)
theorem o_initO {idx W : Nat} {a : Addr} (X : Here p l e R s m args below meth c Z bytes maxL ret own nm h0 n0 ws T h cells slots) (w1 : (Cond.methodLink own idx Lib.objectInit).before a0 Z = true) (w2 : (Cond.instanceMethod Lib.objectInit).before a0 Z = true) (w3 : (Cond.code Lib.objectInit ⟨#[0xb1]⟩ 1 none).before a0 Z = true) (hsz : Ls.size = maxL) (hf : 1 ≤ R.frames) (hW : (st.map fun v => v.category).sum ≤ W) (hl : W + 12 ≤ R.locals) (hd : decode bytes pc = .ok (.invokespecial idx, 3)) (hp : pc + 3 = pc')
    (k : ∀ T', Here p l e R s m args below meth c Z bytes maxL ret own nm h0 n0 ws T' h cells slots → Go p.tables e below P (T'.setTop (mkF m pc' Ls st))) : Go p.tables e below P (T.setTop (mkF m pc Ls (.ref a :: st))) := by
  obtain ⟨locs, Y, N, eT, O, K, hx, hby, hml, hret, hlk, hown, hnm, hZ⟩ := X
  subst hp
  obtain ⟨T', Y', e', st'⟩ := RoadKit.initO Y hx hZ hown w1 w2 w3 eT (g := mkF m pc Ls (.ref a :: st)) rfl (by rw [hml]; exact hsz) rfl (hb hby hd) hf (W := W) (by show 2 * 0 + _ ≤ _; omega) hl
  exact Go.go st' (k T' ⟨locs, Y', N, e', O, K, hx, hby, hml, hret, hlk, hown, hnm, hZ⟩)
theorem o_ldcK {C : String} {index : Nat} {mr : Addr} (X : Here p l e R s m args below meth c Z bytes maxL ret own nm h0 n0 ws T h cells slots) (w : (Cond.classLink own index C).before a0 Z = true) (M : Mir Z C mr) (hd : decode bytes pc = .ok (.ldc index, 2)) (hp : pc + 2 = pc')
    (k : ∀ T', Here p l e R s m args below meth c Z bytes maxL ret own nm h0 n0 ws T' h cells slots → Go p.tables e below P (T'.setTop (mkF m pc' Ls (.ref mr :: st)))) : Go p.tables e below P (T.setTop (mkF m pc Ls st)) := by
  obtain ⟨locs, Y, N, eT, O, K, hx, hby, hml, hret, hlk, hown, hnm, hZ⟩ := X
  subst hp
  obtain ⟨T', Y', e', st'⟩ := own_ldcM Y hx hZ hown w eT M (g := mkF m pc Ls st) rfl (hb hby hd)
  exact Go.go st' (k T' ⟨locs, Y', N, e', O, K, hx, hby, hml, hret, hlk, hown, hnm, hZ⟩)
theorem o_gcI {C : String} {xi : MethodName} {index count W : Nat} {a mr : Addr} (X : Here p l e R s m args below meth c Z bytes maxL ret own nm h0 n0 ws T h cells slots) (w1 : (Cond.methodLink own index xi).before a0 Z = true) (w2 : (Cond.declares Jvm.Stand.gcN).before a0 Z = true) (w3 : (Cond.interfaceMethod xi.cls "java/lang/Object" xi.name xi.desc).before a0 Z = true) (w4 : (Cond.selects C xi Jvm.Stand.gcN).before a0 Z = true) (w5 : (Cond.instanceMethod Jvm.Stand.gcN).before a0 Z = true) (w6 : (Cond.publicMethod Jvm.Stand.gcN).before a0 Z = true) (w7 : (Cond.unhidden C xi.name xi.desc).before a0 Z = true) (w8 : (Cond.castable C xi.cls).before a0 Z = true) (w9 : (Cond.native Jvm.Stand.gcN).before a0 Z = true) (hxi : xi.cls ≠ "java/lang/invoke/MethodHandle" ∧ xi.cls ≠ "java/lang/invoke/VarHandle") (hxo : xi.cls ≠ "java/lang/Object") (hn1 : xi.name = "getClass") (hn2 : xi.desc = "()Ljava/lang/Class;") (E : Exa Z h a C) (M : Mir Z C mr) (hsz : Ls.size = maxL) (hf : 1 ≤ R.frames) (hW : (st.map fun v => v.category).sum ≤ W) (hl : W + (nativeFrameWords "java/lang/Object" "getClass" 1 + 11) ≤ R.locals) (hd : decode bytes pc = .ok (.invokeinterface index count, 5)) (hp : pc + 5 = pc')
    (k : ∀ T', Here p l e R s m args below meth c Z bytes maxL ret own nm h0 n0 ws T' h cells slots → Go p.tables e below P (T'.setTop (mkF m pc' Ls (.ref mr :: st)))) : Go p.tables e below P (T.setTop (mkF m pc Ls (.ref a :: st))) := by
  obtain ⟨locs, Y, N, eT, O, K, hx, hby, hml, hret, hlk, hown, hnm, hZ⟩ := X
  subst hp
  obtain ⟨T', Y', e', st'⟩ := own_gcI Y hx hZ hown w1 w2 w3 w4 w5 w6 w7 w8 w9 hxi hxo hn1 hn2 eT E M (g := mkF m pc Ls (.ref a :: st)) rfl (by rw [hml]; exact hsz) rfl (hb hby hd) hf (W := W) (by show 2 * 0 + _ ≤ _; omega) hl
  exact Go.go st' (k T' ⟨locs, Y', N, e', O, K, hx, hby, hml, hret, hlk, hown, hnm, hZ⟩)
theorem oL {a : Addr} {ka : ClassId} {ty : FieldType} {n : Int32} {vs : List Value} {d : Value} (X : Here p l e R s m args below meth c Z bytes maxL ret own nm h0 n0 ws T h cells slots) (F : Arv Z h a ka ty n vs d) (hd : decode bytes pc = .ok (.arraylength, 1)) (hp : pc + 1 = pc')
    (k : Go p.tables e below P (T.setTop (mkF m pc' Ls (.int n :: st)))) : Go p.tables e below P (T.setTop (mkF m pc Ls (.ref a :: st))) := by
  obtain ⟨locs, Y, N, eT, O, K, hx, hby, hml, hret, hlk, hown, hnm, hZ⟩ := X
  subst hp
  obtain ⟨cl, A, -, S, q, -⟩ := F
  refine Go.go (Y.arraylength hx (by rw [eT]; exact A.1) (State.isArrayOf_alike hZ.alike A.2.1) (g := mkF m pc Ls (.ref a :: st)) rfl rfl (hb hby hd)) ?_
  rw [len_of S q]
  exact k
theorem oC {a : Addr} {ka : ClassId} {n j : Int32} {vs : List Value} {d v : Value} (X : Here p l e R s m args below meth c Z bytes maxL ret own nm h0 n0 ws T h cells slots) (F : Arv Z h a ka .char n vs d) (hj : ¬ j < 0 ∧ j < n) (hv : vs.getD j.toNatClampNeg d = v) (hd : decode bytes pc = .ok (.caload, 1)) (hp : pc + 1 = pc')
    (k : Go p.tables e below P (T.setTop (mkF m pc' Ls (v :: st)))) : Go p.tables e below P (T.setTop (mkF m pc Ls (.int j :: .ref a :: st))) := by
  obtain ⟨locs, Y, N, eT, O, K, hx, hby, hml, hret, hlk, hown, hnm, hZ⟩ := X
  subst hp
  obtain ⟨cl, A, -, S, q, H, -⟩ := F
  have hin := inb_of S hj
  exact Go.go (Y.caload hx (by rw [eT]; exact A.1) (State.isArrayOf_alike hZ.alike A.2.1) A.2.2 hin (H.at hin hv) (g := mkF m pc Ls (.int j :: .ref a :: st)) rfl rfl (hb hby hd)) k
theorem oB {a : Addr} {ka : ClassId} {n j : Int32} {vs : List Value} {d v : Value} (X : Here p l e R s m args below meth c Z bytes maxL ret own nm h0 n0 ws T h cells slots) (F : Arv Z h a ka .byte n vs d) (hj : ¬ j < 0 ∧ j < n) (hv : vs.getD j.toNatClampNeg d = v) (hd : decode bytes pc = .ok (.baload, 1)) (hp : pc + 1 = pc')
    (k : Go p.tables e below P (T.setTop (mkF m pc' Ls (v :: st)))) : Go p.tables e below P (T.setTop (mkF m pc Ls (.int j :: .ref a :: st))) := by
  obtain ⟨locs, Y, N, eT, O, K, hx, hby, hml, hret, hlk, hown, hnm, hZ⟩ := X
  subst hp
  obtain ⟨cl, A, -, S, q, H, -⟩ := F
  have hin := inb_of S hj
  exact Go.go (Y.baloadBytes hx (by rw [eT]; exact A.1) (State.isArrayOf_alike hZ.alike A.2.1) A.2.2 hin (H.at hin hv) (g := mkF m pc Ls (.int j :: .ref a :: st)) rfl rfl (hb hby hd)) k
theorem o_aaload {a : Addr} {ka : ClassId} {ty : FieldType} {n j : Int32} {vs : List Value} {d v : Value} (X : Here p l e R s m args below meth c Z bytes maxL ret own nm h0 n0 ws T h cells slots) (F : Arv Z h a ka ty n vs d) (hty : ty.isReference = true) (hj : ¬ j < 0 ∧ j < n) (hv : vs.getD j.toNatClampNeg d = v) (hd : decode bytes pc = .ok (.aaload, 1)) (hp : pc + 1 = pc')
    (k : Go p.tables e below P (T.setTop (mkF m pc' Ls (v :: st)))) : Go p.tables e below P (T.setTop (mkF m pc Ls (.int j :: .ref a :: st))) := by
  obtain ⟨locs, Y, N, eT, O, K, hx, hby, hml, hret, hlk, hown, hnm, hZ⟩ := X
  subst hp
  obtain ⟨cl, A, -, S, q, H, -⟩ := F
  have hin := inb_of S hj
  exact Go.go (Y.aaload hx (by rw [eT]; exact A.1) (State.isArrayOf_alike hZ.alike A.2.1) hty A.2.2 hin (H.at hin hv) (g := mkF m pc Ls (.int j :: .ref a :: st)) rfl rfl (hb hby hd)) k
theorem o_new {C : String} {index kk : Nat} (X : Here p l e R s m args below meth c Z bytes maxL ret own nm h0 n0 ws T h cells slots) (w : (Cond.classLink own index C).before a0 Z = true) (wi : (Cond.instantiable C kk).before a0 Z = true) (wz : (Cond.initialized C).before a0 Z = true) (hd : decode bytes pc = .ok (.new index, 3)) (hp : pc + 3 = pc') (hc : cells + 1 ≤ R.cells) (hl : slots + kk ≤ R.slots)
    (k : ∀ T' h' b, Here p l e R s m args below meth c Z bytes maxL ret own nm h0 n0 ws T' h' (cells + 1) (slots + kk) → b = h.size → b < h'.size → Ext h h' → Exa Z h' b C → (∀ {O nm d : String} {ty : FieldType}, Laid Z a0 C O nm d → parseFieldDescriptor d = some ty → Fld Z h' b O nm d (defaultValue ty)) → Unt h' b → Go p.tables e below P (T'.setTop (mkF m pc' Ls (.ref b :: st)))) : Go p.tables e below P (T.setTop (mkF m pc Ls st)) := by
  obtain ⟨locs, Y, N, eT, O, K, hx, hby, hml, hret, hlk, hown, hnm, hZ⟩ := X
  subst hp
  obtain ⟨T', h', Y', e', E', A', D', U', st'⟩ := newO Y hx hZ hown w wi wz eT (g := mkF m pc Ls st) rfl (hb hby hd) hc hl
  exact Go.go st' (k T' h' _ ⟨locs, Y', N, e', O.ext E', K.ext E', hx, hby, hml, hret, hlk, hown, hnm, hZ⟩ rfl A'.lt E' A' D' U')
theorem o_newP {aty : ArrayType} {n : Int32} {cap : Nat} {ad : String} (X : Here p l e R s m args below meth c Z bytes maxL ret own nm h0 n0 ws T h cells slots) (w : (Cond.arrayClass (newarray.typeOf aty)).before a0 Z = true) (hd : decode bytes pc = .ok (.newarray aty, 2)) (hp : pc + 2 = pc') (hn : ¬ n < 0) (hcap : n.toNatClampNeg ≤ cap) (hb' : cap * 8 ≤ 536870912) (hc : cells + 1 ≤ R.cells) (hl : slots + cap ≤ R.slots) (had : "[" ++ (newarray.typeOf aty).toString = ad)
    (k : ∀ T' h' b ka, Here p l e R s m args below meth c Z bytes maxL ret own nm h0 n0 ws T' h' (cells + 1) (slots + cap) → b = h.size → b < h'.size → Ext h h' → Arv Z h' b ka (newarray.typeOf aty) n [] (defaultValue (newarray.typeOf aty)) → Exa Z h' b ad → Go p.tables e below P (T'.setTop (mkF m pc' Ls (.ref b :: st)))) : Go p.tables e below P (T.setTop (mkF m pc Ls (.int n :: st))) := by
  obtain ⟨locs, Y, N, eT, O, K, hx, hby, hml, hret, hlk, hown, hnm, hZ⟩ := X
  subst hp
  obtain ⟨T', h', ka, Y', e', E', A', B', st'⟩ := newPE Y hx hZ w eT (g := mkF m pc Ls (.int n :: st)) rfl (hb hby hd) rfl hn hcap hb' hc hl had
  exact Go.go st' (k T' h' _ ka ⟨locs, Y', N, e', O.ext E', K.ext E', hx, hby, hml, hret, hlk, hown, hnm, hZ⟩ rfl A'.lt E' (Arv.new A' hn) B')
theorem o_newR {C ad : String} {index : Nat} {n : Int32} {cap : Nat} (X : Here p l e R s m args below meth c Z bytes maxL ret own nm h0 n0 ws T h cells slots) (w : (Cond.classLink own index C).before a0 Z = true) (w2 : (Cond.arrayOver (.object C)).before a0 Z = true) (hd : decode bytes pc = .ok (.anewarray index, 3)) (hp : pc + 3 = pc') (hn : ¬ n < 0) (hcap : n.toNatClampNeg ≤ cap) (hb' : cap * 8 ≤ 536870912) (hc : cells + 1 ≤ R.cells) (hl : slots + cap ≤ R.slots) (had : "[" ++ (FieldType.object C).toString = ad)
    (k : ∀ T' h' b ka, Here p l e R s m args below meth c Z bytes maxL ret own nm h0 n0 ws T' h' (cells + 1) (slots + cap) → b = h.size → b < h'.size → Ext h h' → Arv Z h' b ka (.object C) n [] .null → Ovr Z ka C → Exa Z h' b ad → Go p.tables e below P (T'.setTop (mkF m pc' Ls (.ref b :: st)))) : Go p.tables e below P (T.setTop (mkF m pc Ls (.int n :: st))) := by
  obtain ⟨locs, Y, N, eT, O, K, hx, hby, hml, hret, hlk, hown, hnm, hZ⟩ := X
  subst hp
  obtain ⟨T', h', ka, Y', e', E', A', B', V', st'⟩ := newRE Y hx hZ hown w w2 eT (g := mkF m pc Ls (.int n :: st)) rfl (hb hby hd) rfl hn hcap hb' hc hl had
  exact Go.go st' (k T' h' _ ka ⟨locs, Y', N, e', O.ext E', K.ext E', hx, hby, hml, hret, hlk, hown, hnm, hZ⟩ rfl A'.lt E' (Arv.new A' hn) V' B')
theorem oP {R0 O n d C : String} {index kk : Nat} {ty : FieldType} {a : Addr} {v v' old : Value} (X : Here p l e R s m args below meth c Z bytes maxL ret own nm h0 n0 ws T h cells slots) (w : (Cond.fieldLink own index R0 n d).before a0 Z = true) (via : Via Z R0 O n d) (F : Fld Z h a O n d old) (E : Exa Z h a C) (L : (Cond.lays C O n d).before a0 Z = true ∨ ((Cond.laysFinal C O n d).before a0 Z = true ∧ own = O ∧ nm = "<init>")) (wi : (Cond.instantiable C kk).before a0 Z = true) (hty : parseFieldDescriptor d = some ty) (hv : narrow ty v = v') (hf : fits ty v' = true) (hd : decode bytes pc = .ok (.putfield index, 3)) (hp : pc + 3 = pc') (hn0 : n0 ≤ a) (hws : a ∈ ws ∨ h0.size ≤ a)
    (k : ∀ T' h', Here p l e R s m args below meth c Z bytes maxL ret own nm h0 n0 ws T' h' cells slots → Wr h h' a (RoadKit.slotOf Z O n d) v' → Go p.tables e below P (T'.setTop (mkF m pc' Ls st))) : Go p.tables e below P (T.setTop (mkF m pc Ls (v :: .ref a :: st))) := by
  obtain ⟨locs, Y, N, eT, O, K, hx, hby, hml, hret, hlk, hown, hnm, hZ⟩ := X
  subst hp
  obtain ⟨T', h', Y', e', W', st'⟩ := putFN Y hx hZ hown w via eT F E (L.imp id fun q => ⟨q.1, q.2.1, hnm.trans q.2.2⟩) wi hty hv hf (g := mkF m pc Ls (v :: .ref a :: st)) rfl rfl (hb hby hd)
  exact Go.go st' (k T' h' ⟨_, Y', Fr.snoc Y' N hn0, e', O.wr W' hn0, K.wr W' hws, hx, hby, hml, hret, hlk, hown, hnm, hZ⟩ W')
theorem o_stC {a : Addr} {ka : ClassId} {n j : Int32} {x y : Int32} {i : Nat} {vs : List Value} {d : Value} (X : Here p l e R s m args below meth c Z bytes maxL ret own nm h0 n0 ws T h cells slots) (F : Arv Z h a ka .char n vs d) (hj : ¬ j < 0 ∧ j < n) (hi : j.toNatClampNeg = i) (hil : i < vs.length) (hv : nar .char x = y) (hd : decode bytes pc = .ok (.castore, 1)) (hp : pc + 1 = pc') (hn0 : n0 ≤ a) (hws : a ∈ ws ∨ h0.size ≤ a)
    (k : ∀ T' h', Here p l e R s m args below meth c Z bytes maxL ret own nm h0 n0 ws T' h' cells slots → (∃ sl w, Wr h h' a sl w) → Arv Z h' a ka .char n (vs.set i (.int y)) d → Go p.tables e below P (T'.setTop (mkF m pc' Ls st))) : Go p.tables e below P (T.setTop (mkF m pc Ls (.int x :: .int j :: .ref a :: st))) := by
  obtain ⟨locs, Y, N, eT, O, K, hx, hby, hml, hret, hlk, hown, hnm, hZ⟩ := X
  subst hp hv
  obtain ⟨cl, A, q1, S, q, H, G⟩ := F
  obtain ⟨T', h', Y', e', W', st'⟩ := RoadKit.stC Y hx hZ eT A (inb_of S hj) (g := mkF m pc Ls (.int x :: .int j :: .ref a :: st)) rfl rfl (hb hby hd)
  exact Go.go st' (k T' h' ⟨_, Y', Fr.snoc Y' N hn0, e', O.wr W' hn0, K.wr W' hws, hx, hby, hml, hret, hlk, hown, hnm, hZ⟩ ⟨_, _, W'⟩ (Arv.set A q1 S q H G (fits_nar_char _) W' i hi hil))
theorem o_stB {a : Addr} {ka : ClassId} {n j : Int32} {x y : Int32} {i : Nat} {vs : List Value} {d : Value} (X : Here p l e R s m args below meth c Z bytes maxL ret own nm h0 n0 ws T h cells slots) (F : Arv Z h a ka .byte n vs d) (hj : ¬ j < 0 ∧ j < n) (hi : j.toNatClampNeg = i) (hil : i < vs.length) (hv : nar .byte x = y) (hd : decode bytes pc = .ok (.bastore, 1)) (hp : pc + 1 = pc') (hn0 : n0 ≤ a) (hws : a ∈ ws ∨ h0.size ≤ a)
    (k : ∀ T' h', Here p l e R s m args below meth c Z bytes maxL ret own nm h0 n0 ws T' h' cells slots → (∃ sl w, Wr h h' a sl w) → Arv Z h' a ka .byte n (vs.set i (.int y)) d → Go p.tables e below P (T'.setTop (mkF m pc' Ls st))) : Go p.tables e below P (T.setTop (mkF m pc Ls (.int x :: .int j :: .ref a :: st))) := by
  obtain ⟨locs, Y, N, eT, O, K, hx, hby, hml, hret, hlk, hown, hnm, hZ⟩ := X
  subst hp hv
  obtain ⟨cl, A, q1, S, q, H, G⟩ := F
  obtain ⟨T', h', Y', e', W', st'⟩ := RoadKit.stB Y hx hZ eT A (inb_of S hj) (g := mkF m pc Ls (.int x :: .int j :: .ref a :: st)) rfl rfl (hb hby hd)
  exact Go.go st' (k T' h' ⟨_, Y', Fr.snoc Y' N hn0, e', O.wr W' hn0, K.wr W' hws, hx, hby, hml, hret, hlk, hown, hnm, hZ⟩ ⟨_, _, W'⟩ (Arv.set A q1 S q H G (fits_nar_byte _) W' i hi hil))
theorem o_stR {a : Addr} {ka : ClassId} {ty : FieldType} {n j : Int32} {v : Value} {i : Nat} {vs : List Value} {d : Value} (X : Here p l e R s m args below meth c Z bytes maxL ret own nm h0 n0 ws T h cells slots) (F : Arv Z h a ka ty n vs d) (hty : ty.isReference = true) (hSto : Sto Z h a v) (hfit : fits ty v = true) (hj : ¬ j < 0 ∧ j < n) (hi : j.toNatClampNeg = i) (hil : i < vs.length) (hd : decode bytes pc = .ok (.aastore, 1)) (hp : pc + 1 = pc') (hn0 : n0 ≤ a) (hws : a ∈ ws ∨ h0.size ≤ a)
    (k : ∀ T' h', Here p l e R s m args below meth c Z bytes maxL ret own nm h0 n0 ws T' h' cells slots → (∃ sl w, Wr h h' a sl w) → Arv Z h' a ka ty n (vs.set i v) d → Go p.tables e below P (T'.setTop (mkF m pc' Ls st))) : Go p.tables e below P (T.setTop (mkF m pc Ls (v :: .int j :: .ref a :: st))) := by
  obtain ⟨locs, Y, N, eT, O, K, hx, hby, hml, hret, hlk, hown, hnm, hZ⟩ := X
  subst hp
  obtain ⟨cl, A, q1, S, q, H, G⟩ := F
  obtain ⟨T', h', Y', e', W', st'⟩ := RoadKit.stR Y hx hZ eT A (inb_of S hj) hty hSto (g := mkF m pc Ls (v :: .int j :: .ref a :: st)) rfl rfl (hb hby hd)
  exact Go.go st' (k T' h' ⟨_, Y', Fr.snoc Y' N hn0, e', O.wr W' hn0, K.wr W' hws, hx, hby, hml, hret, hlk, hown, hnm, hZ⟩ ⟨_, _, W'⟩ (Arv.set A q1 S q H G hfit W' i hi hil))
theorem o_ldcF {index : Nat} {v : UInt32} (X : Here p l e R s m args below meth c Z bytes maxL ret own nm h0 n0 ws T h cells slots) (w : (Cond.constantFloat own index v).before a0 Z = true) (hd : decode bytes pc = .ok (.ldc index, 2)) (hp : pc + 2 = pc')
    (k : Go p.tables e below P (T.setTop (mkF m pc' Ls (.float v :: st)))) : Go p.tables e below P (T.setTop (mkF m pc Ls st)) := by
  obtain ⟨locs, Y, N, eT, O, K, hx, hby, hml, hret, hlk, hown, hnm, hZ⟩ := X
  subst hp
  exact Go.go (Y.ldcFloatC hx hown (mvT hZ w) (g := mkF m pc Ls st) rfl (hb hby hd)) k
theorem o_tsw {dflt low high o : Int} {offs : Array Int} {len : Nat} {i : Int32} (X : Here p l e R s m args below meth c Z bytes maxL ret own nm h0 n0 ws T h cells slots) (hd : decode bytes pc = .ok (.tableswitch dflt low high offs, len)) (hin : ¬ (i.toInt < low ∨ i.toInt > high)) (hoff : offs[(i.toInt - low).toNat]? = some o) (ho : 0 ≤ (pc : Int) + o) (hp : ((pc : Int) + o).toNat = pc')
    (k : Go p.tables e below P (T.setTop (mkF m pc' Ls st))) : Go p.tables e below P (T.setTop (mkF m pc Ls (.int i :: st))) := by
  obtain ⟨locs, Y, N, eT, O, K, hx, hby, hml, hret, hlk, hown, hnm, hZ⟩ := X
  exact Go.go (fun t q => XS.tswIn Y.here hx rfl (pc0 := pc) (pc' := pc') rfl (hb hby hd) rfl hin hoff ho hp q) k
theorem o_lswM {o : Int} {pairs : Array (Int × Int)} {len : Nat} {i : Int32} (X : Here p l e R s m args below meth c Z bytes maxL ret own nm h0 n0 ws T h cells slots) (hd : decode bytes pc = .ok (.lookupswitch o pairs, len)) (hs : (pairs.toList.zip (pairs.toList.drop 1)).all (fun (a, next) => a.1 < next.1) = true) (hf : pairs.find? (·.1 == i.toInt) = none) (ho : 0 ≤ (pc : Int) + o) (hp : ((pc : Int) + o).toNat = pc')
    (k : Go p.tables e below P (T.setTop (mkF m pc' Ls st))) : Go p.tables e below P (T.setTop (mkF m pc Ls (.int i :: st))) := by
  obtain ⟨locs, Y, N, eT, O, K, hx, hby, hml, hret, hlk, hown, hnm, hZ⟩ := X
  subst hp
  exact Go.go (Y.lookupswitchMiss hx (g := mkF m pc Ls (.int i :: st)) rfl rfl (hb hby hd) hs hf ho) k
theorem oz  {Po : Option Value → Heap → Prop} (X : Here p l e R s m args below meth c Z bytes maxL ret own nm h0 n0 ws T h cells slots) (hd : decode bytes pc = .ok (.return_, 1)) (hr0 : ret = none) (hc : cells ≤ R.cells) (hs : slots ≤ R.slots) (hQ : Po (none) h) : Go p.tables e below (PO s R h0 n0 ws Po) (T.setTop (mkF m pc Ls [])) := by
  obtain ⟨locs, Y, N, eT, O, K, hx, hby, hml, hret, hlk, hown, hnm, hZ⟩ := X
  obtain ⟨fs, hr, hrun, hended, hW, hsame⟩ := Y.leave (v := none) (fun _ => rfl) hlk
  refine ⟨_, _, ?_, hrun, hended, _, _, rfl, ⟨N, ?_, ?_⟩, ⟨_, rfl⟩, hW, hsame.mono hc hs⟩
  · exact Y.returnOut hx (hret.trans hr0) (hb hby hd) hr
  · show Keep h0 T.heap ws
    rw [eT]; exact K
  · show Po _ T.heap
    rw [eT]; exact hQ
theorem o_iret {z : Int32} {Po : Option Value → Heap → Prop} (X : Here p l e R s m args below meth c Z bytes maxL ret own nm h0 n0 ws T h cells slots) (hd : decode bytes pc = .ok (.ireturn, 1)) (hr0 : ret = some .int) (hc : cells ≤ R.cells) (hs : slots ≤ R.slots) (hQ : Po (some (.int z)) h) : Go p.tables e below (PO s R h0 n0 ws Po) (T.setTop (mkF m pc Ls (.int z :: rest))) := by
  obtain ⟨locs, Y, N, eT, O, K, hx, hby, hml, hret, hlk, hown, hnm, hZ⟩ := X
  obtain ⟨fs, hr, hrun, hended, hW, hsame⟩ := Y.leave (v := some (.int z)) (fun h => by rw [hret, hr0] at h; cases h) hlk
  refine ⟨_, _, ?_, hrun, hended, _, _, rfl, ⟨N, ?_, ?_⟩, ⟨_, rfl⟩, hW, hsame.mono hc hs⟩
  · exact retOut Y hx (hret.trans hr0) rfl (Or.inl ⟨rfl, Or.inl rfl, _, rfl⟩) (hb hby hd) hr
  · show Keep h0 T.heap ws
    rw [eT]; exact K
  · show Po _ T.heap
    rw [eT]; exact hQ
theorem o_nret {z y : Int32} {t : FieldType} {Po : Option Value → Heap → Prop} (X : Here p l e R s m args below meth c Z bytes maxL ret own nm h0 n0 ws T h cells slots) (hd : decode bytes pc = .ok (.ireturn, 1)) (hr0 : ret = some t) (hv : nar t z = y) (ht : t = .boolean ∨ t = .byte ∨ t = .char ∨ t = .short) (hc : cells ≤ R.cells) (hs : slots ≤ R.slots) (hQ : Po (some (.int y)) h) : Go p.tables e below (PO s R h0 n0 ws Po) (T.setTop (mkF m pc Ls (.int z :: rest))) := by
  obtain ⟨locs, Y, N, eT, O, K, hx, hby, hml, hret, hlk, hown, hnm, hZ⟩ := X
  obtain ⟨fs, hr, hrun, hended, hW, hsame⟩ := Y.leave (v := some (.int y)) (fun h => by rw [hret, hr0] at h; cases h) hlk
  refine ⟨_, _, ?_, hrun, hended, _, _, rfl, ⟨N, ?_, ?_⟩, ⟨_, rfl⟩, hW, hsame.mono hc hs⟩
  · subst hv; exact retN Y hx (hret.trans hr0) ht (hb hby hd) hr
  · show Keep h0 T.heap ws
    rw [eT]; exact K
  · show Po _ T.heap
    rw [eT]; exact hQ
theorem oR {w : Value} {t : FieldType} {Po : Option Value → Heap → Prop} (X : Here p l e R s m args below meth c Z bytes maxL ret own nm h0 n0 ws T h cells slots) (hd : decode bytes pc = .ok (.areturn, 1)) (hr0 : ret = some t) (ht : t.isReference = true) (hw : w.isRef = true) (hc : cells ≤ R.cells) (hs : slots ≤ R.slots) (hQ : Po (some w) h) : Go p.tables e below (PO s R h0 n0 ws Po) (T.setTop (mkF m pc Ls (w :: rest))) := by
  obtain ⟨locs, Y, N, eT, O, K, hx, hby, hml, hret, hlk, hown, hnm, hZ⟩ := X
  obtain ⟨fs, hr, hrun, hended, hW, hsame⟩ := Y.leave (v := some w) (fun h => by rw [hret, hr0] at h; cases h) hlk
  refine ⟨_, _, ?_, hrun, hended, _, _, rfl, ⟨N, ?_, ?_⟩, ⟨_, rfl⟩, hW, hsame.mono hc hs⟩
  · exact retOut Y hx (hret.trans hr0) (by rcases ref_cases hw with rfl | ⟨a, rfl⟩ <;> cases t <;> first | rfl | cases ht) (Or.inr (Or.inr (Or.inr (Or.inr ⟨rfl, ht, hw⟩)))) (hb hby hd) hr
  · show Keep h0 T.heap ws
    rw [eT]; exact K
  · show Po _ T.heap
    rw [eT]; exact hQ
theorem o_static {index : Nat} {y : MethodName} {bytes' : ByteArray} {maxL' : Nat} {ret' : Option FieldType} {W kc ks : Nat} {Q : Option Value → Heap → List Loc → Prop} {ws' : List Addr} {argsL : List Value} (X : Here p l e R s m args below meth c Z bytes maxL ret own nm h0 n0 ws T h cells slots) (w1 : (Cond.methodLink own index y).before a0 Z = true) (w2 : (Cond.static y).before a0 Z = true) (w3 : (Cond.initialized y.cls).before a0 Z = true) (w4 : (Cond.code y bytes' maxL' ret').before a0 Z = true) (hy : y.cls ≠ "java/lang/invoke/MethodHandle" ∧ y.cls ≠ "java/lang/invoke/VarHandle") (hlen : ∀ sig, parseMethodDescriptor y.desc = some sig → argsL.length = sig.parameters.length) (hK : Back l R p e below s args y 3 W (fun A a => a = argsL.toArray ∧ A.U.heap = h ∧ A.cells + kc ≤ R.cells ∧ A.slots + ks ≤ R.slots) (fun A _ v B => ∃ L, Q v B.U.heap L ∧ B.locs = A.locs ++ L ∧ B.cells = A.cells + kc ∧ B.slots = A.slots + ks)) (hd : decode bytes pc = .ok (.invokestatic index, 3)) (hp : pc + 3 = pc') (hsz : Ls.size = maxL) (hstk : st = argsL.reverse ++ rest) (hW : (rest.map fun v => v.category).sum ≤ W) (hc : cells + kc ≤ R.cells) (hs : slots + ks ≤ R.slots) (hQ : ∀ v h' L, Q v h' L → Fr n0 L ∧ Keep h h' ws') (hws : ∀ x ∈ ws', n0 ≤ x ∧ (x ∈ ws ∨ h0.size ≤ x))
    (k : ∀ v T' h' L, Here p l e R s m args below meth c Z bytes maxL ret own nm h0 n0 ws T' h' (cells + kc) (slots + ks) → Q v h' L → Keep h h' ws' → Go p.tables e below P (T'.setTop (mkF m pc' Ls (v.toList ++ rest)))) : Go p.tables e below P (T.setTop (mkF m pc Ls st)) := by
  obtain ⟨locs, Y, N, eT, O, K, hx, hby, hml, hret, hlk, hown, hnm, hZ⟩ := X
  subst hp hstk
  obtain ⟨v, vm₁, ⟨T', L', k', n'⟩, -, X', ⟨L, hq, l', y', z'⟩, st'⟩ := Jvm.LawKit.callS Y hx hown (mvT hZ w1) (mvT hZ w2) (mvT hZ w3) (mvT hZ w4) hy hK (g := mkF m pc Ls (argsL.reverse ++ rest)) rfl (by rw [hml]; exact hsz) (argsL := argsL) (rest := rest) hlen rfl (by show 2 * 0 + _ ≤ _; omega) (hb hby hd) (fun _ _ => ⟨rfl, eT, hc, hs⟩)
  dsimp only [Pt.U, Pt.locs, Pt.cells, Pt.slots] at X' l' y' z' st' hq
  subst l' y' z'
  obtain ⟨f1, f2⟩ := hQ _ _ _ hq
  exact Go.go st' (k v T' _ L ⟨_, X', N.app f1, rfl, O.keep f2 (fun x hx => (hws x hx).1), K.trans f2 (fun x hx => (hws x hx).2), hx, hby, hml, hret, hlk, hown, hnm, hZ⟩ hq f2)
theorem o_special {index : Nat} {y : MethodName} {bytes' : ByteArray} {maxL' : Nat} {b : Addr} {W kc ks : Nat} {Q : Option Value → Heap → List Loc → Prop} {ws' : List Addr} {argsL : List Value} (X : Here p l e R s m args below meth c Z bytes maxL ret own nm h0 n0 ws T h cells slots) (hy1 : y.name = "<init>") (w1 : (Cond.methodLink own index y).before a0 Z = true) (w2 : (Cond.instanceMethod y).before a0 Z = true) (w4 : (Cond.code y bytes' maxL' none).before a0 Z = true) (hy : y.cls ≠ "java/lang/invoke/MethodHandle" ∧ y.cls ≠ "java/lang/invoke/VarHandle") (hlen : ∀ sig, parseMethodDescriptor y.desc = some sig → argsL.length = sig.parameters.length) (hK : Back l R p e below s args y 3 W (fun A a => a = (.ref b :: argsL).toArray ∧ A.U.heap = h ∧ A.cells + kc ≤ R.cells ∧ A.slots + ks ≤ R.slots) (fun A _ v B => ∃ L, Q v B.U.heap L ∧ B.locs = A.locs ++ L ∧ B.cells = A.cells + kc ∧ B.slots = A.slots + ks)) (hd : decode bytes pc = .ok (.invokespecial index, 3)) (hp : pc + 3 = pc') (hsz : Ls.size = maxL) (hstk : st = argsL.reverse ++ .ref b :: rest) (hW : (rest.map fun v => v.category).sum ≤ W) (hc : cells + kc ≤ R.cells) (hs : slots + ks ≤ R.slots) (hQ : ∀ v h' L, Q v h' L → Fr n0 L ∧ Keep h h' ws') (hws : ∀ x ∈ ws', n0 ≤ x ∧ (x ∈ ws ∨ h0.size ≤ x))
    (k : ∀ v T' h' L, Here p l e R s m args below meth c Z bytes maxL ret own nm h0 n0 ws T' h' (cells + kc) (slots + ks) → Q v h' L → Keep h h' ws' → Go p.tables e below P (T'.setTop (mkF m pc' Ls (v.toList ++ rest)))) : Go p.tables e below P (T.setTop (mkF m pc Ls st)) := by
  obtain ⟨locs, Y, N, eT, O, K, hx, hby, hml, hret, hlk, hown, hnm, hZ⟩ := X
  subst hp hstk
  obtain ⟨v, vm₁, ⟨T', L', k', n'⟩, -, X', ⟨L, hq, l', y', z'⟩, st'⟩ := Y.specialBack hx hy1 hown (mvT hZ w1) (mvT hZ w2) (mvT hZ w4) hy hK (g := mkF m pc Ls (argsL.reverse ++ .ref b :: rest)) rfl (by rw [hml]; exact hsz) (Steps.refl _) (a := b) (argsL := argsL) (rest := rest) hlen rfl (by show 2 * 0 + _ ≤ _; omega) (hb hby hd) (fun _ _ => ⟨rfl, eT, hc, hs⟩)
  dsimp only [Pt.U, Pt.locs, Pt.cells, Pt.slots] at X' l' y' z' st' hq
  subst l' y' z'
  obtain ⟨f1, f2⟩ := hQ _ _ _ hq
  exact Go.go (fun t q => st'.trans q) (k v T' _ L ⟨_, X', N.app f1, rfl, O.keep f2 (fun x hx => (hws x hx).1), K.trans f2 (fun x hx => (hws x hx).2), hx, hby, hml, hret, hlk, hown, hnm, hZ⟩ hq f2)
theorem o_virtual {index : Nat} {C : String} {y z : MethodName} {b : Addr} {W kc ks : Nat} {Q : Option Value → Heap → List Loc → Prop} {ws' : List Addr} {argsL : List Value} (X : Here p l e R s m args below meth c Z bytes maxL ret own nm h0 n0 ws T h cells slots) (E : Exa Z h b C) (w1 : (Cond.methodLink own index y).before a0 Z = true) (w2 : (Cond.declares y).before a0 Z = true) (w3 : (Cond.selects C y z).before a0 Z = true) (w4 : (Cond.instanceMethod z).before a0 Z = true) (nf : ∀ s' : State, Z.Warmed39 s'.vm → NotFace s' y) (hy : y.cls ≠ "java/lang/invoke/MethodHandle" ∧ y.cls ≠ "java/lang/invoke/VarHandle") (hlen : ∀ sig, parseMethodDescriptor y.desc = some sig → argsL.length = sig.parameters.length) (hK : Back l R p e below s args z 3 W (fun A a => a = (.ref b :: argsL).toArray ∧ A.U.heap = h ∧ A.cells + kc ≤ R.cells ∧ A.slots + ks ≤ R.slots) (fun A _ v B => ∃ L, Q v B.U.heap L ∧ B.locs = A.locs ++ L ∧ B.cells = A.cells + kc ∧ B.slots = A.slots + ks)) (hd : decode bytes pc = .ok (.invokevirtual index, 3)) (hp : pc + 3 = pc') (hsz : Ls.size = maxL) (hstk : st = argsL.reverse ++ .ref b :: rest) (hW : (rest.map fun v => v.category).sum ≤ W) (hc : cells + kc ≤ R.cells) (hs : slots + ks ≤ R.slots) (hQ : ∀ v h' L, Q v h' L → Fr n0 L ∧ Keep h h' ws') (hws : ∀ x ∈ ws', n0 ≤ x ∧ (x ∈ ws ∨ h0.size ≤ x))
    (k : ∀ v T' h' L, Here p l e R s m args below meth c Z bytes maxL ret own nm h0 n0 ws T' h' (cells + kc) (slots + ks) → Q v h' L → Keep h h' ws' → Go p.tables e below P (T'.setTop (mkF m pc' Ls (v.toList ++ rest)))) : Go p.tables e below P (T.setTop (mkF m pc Ls st)) := by
  obtain ⟨locs, Y, N, eT, O, K, hx, hby, hml, hret, hlk, hown, hnm, hZ⟩ := X
  obtain ⟨cq, kq, qa, qb, qc⟩ := isOf hZ eT E
  subst hp hstk
  obtain ⟨v, vm₁, ⟨T', L', k', n'⟩, -, X', ⟨L, hq, l', y', z'⟩, st'⟩ := (Y.virtualBack hx (y := y) (z := z) hown (mvT hZ w1) (mvT hZ w2) (nf _ hZ) (mvT hZ w3) (mvT hZ w4) hy hK qa qc (g := mkF m pc Ls (argsL.reverse ++ .ref b :: rest)) rfl (by rw [hml]; exact hsz) (Steps.refl _) (argsL := argsL) (rest := rest) hlen rfl (by show 2 * 0 + _ ≤ _; omega) (hb hby hd) (fun _ _ => ⟨rfl, eT, hc, hs⟩))
  dsimp only [Pt.U, Pt.locs, Pt.cells, Pt.slots] at X' l' y' z' st' hq
  subst l' y' z'
  obtain ⟨f1, f2⟩ := hQ _ _ _ hq
  exact Go.go (fun t q => st'.trans q) (k v T' _ L ⟨_, X', N.app f1, rfl, O.keep f2 (fun x hx => (hws x hx).1), K.trans f2 (fun x hx => (hws x hx).2), hx, hby, hml, hret, hlk, hown, hnm, hZ⟩ hq f2)
theorem o_iface {index count : Nat} {C : String} {y z : MethodName} {b : Addr} {W kc ks : Nat} {Q : Option Value → Heap → List Loc → Prop} {ws' : List Addr} {argsL : List Value} (X : Here p l e R s m args below meth c Z bytes maxL ret own nm h0 n0 ws T h cells slots) (E : Exa Z h b C) (w1 : (Cond.methodLink own index y).before a0 Z = true) (w2 : (Cond.declares y).before a0 Z = true) (w3 : (Cond.interfaceMethod y.cls y.cls y.name y.desc).before a0 Z = true) (w4 : (Cond.selects C y z).before a0 Z = true) (w5 : (Cond.instanceMethod z).before a0 Z = true) (w6 : (Cond.publicMethod z).before a0 Z = true) (w7 : (Cond.unhidden C y.name y.desc).before a0 Z = true) (w8 : (Cond.castable C y.cls).before a0 Z = true) (hd3 : ((Cond.interfaceMethod y.cls y.cls y.name y.desc).onTables && (Cond.interfaceMethod y.cls y.cls y.name y.desc).keepsFace) = true) (hy : y.cls ≠ "java/lang/invoke/MethodHandle" ∧ y.cls ≠ "java/lang/invoke/VarHandle") (hlen : ∀ sig, parseMethodDescriptor y.desc = some sig → argsL.length = sig.parameters.length) (hK : Back l R p e below s args z 5 W (fun A a => a = (.ref b :: argsL).toArray ∧ A.U.heap = h ∧ A.cells + kc ≤ R.cells ∧ A.slots + ks ≤ R.slots) (fun A _ v B => ∃ L, Q v B.U.heap L ∧ B.locs = A.locs ++ L ∧ B.cells = A.cells + kc ∧ B.slots = A.slots + ks)) (hd : decode bytes pc = .ok (.invokeinterface index count, 5)) (hp : pc + 5 = pc') (hsz : Ls.size = maxL) (hstk : st = argsL.reverse ++ .ref b :: rest) (hW : (rest.map fun v => v.category).sum ≤ W) (hc : cells + kc ≤ R.cells) (hs : slots + ks ≤ R.slots) (hQ : ∀ v h' L, Q v h' L → Fr n0 L ∧ Keep h h' ws') (hws : ∀ x ∈ ws', n0 ≤ x ∧ (x ∈ ws ∨ h0.size ≤ x))
    (k : ∀ v T' h' L, Here p l e R s m args below meth c Z bytes maxL ret own nm h0 n0 ws T' h' (cells + kc) (slots + ks) → Q v h' L → Keep h h' ws' → Go p.tables e below P (T'.setTop (mkF m pc' Ls (v.toList ++ rest)))) : Go p.tables e below P (T.setTop (mkF m pc Ls st)) := by
  obtain ⟨locs, Y, N, eT, O, K, hx, hby, hml, hret, hlk, hown, hnm, hZ⟩ := X
  obtain ⟨cq, kq, qa, qb, qc⟩ := isOf hZ eT E
  subst hp hstk
  obtain ⟨v, vm₁, ⟨T', L', k', n'⟩, -, X', ⟨L, hq, l', y', z'⟩, st'⟩ := (Y.interfaceBack hx (xi := y) (y := z) hown (mvT hZ w1) (mvT hZ w2) (mvT hZ w3 hd3) (mvT hZ w4) (mvT hZ w5) (mvT hZ w6) (mvT hZ w7) (mvT hZ w8) hy hK qa qb qc (g := mkF m pc Ls (argsL.reverse ++ .ref b :: rest)) rfl (by rw [hml]; exact hsz) (Steps.refl _) (argsL := argsL) (rest := rest) hlen rfl (by show 2 * 0 + _ ≤ _; omega) (hb hby hd) (fun _ _ => ⟨rfl, eT, hc, hs⟩))
  dsimp only [Pt.U, Pt.locs, Pt.cells, Pt.slots] at X' l' y' z' st' hq
  subst l' y' z'
  obtain ⟨f1, f2⟩ := hQ _ _ _ hq
  exact Go.go (fun t q => st'.trans q) (k v T' _ L ⟨_, X', N.app f1, rfl, O.keep f2 (fun x hx => (hws x hx).1), K.trans f2 (fun x hx => (hws x hx).2), hx, hby, hml, hret, hlk, hown, hnm, hZ⟩ hq f2)
theorem back_met {y : MethodName} {bytes' : ByteArray} {maxL' : Nat} {ret' : Option FieldType} {rm : Room} {len W : Nat} {as' : Array Value} {ws' : List Addr} {Po : Option Value → Heap → Prop} (hM : Met l y bytes' maxL' ret' [] rm Z as' h n0 ws' Po) (X : Here p l e R s m args below meth c Z bytes maxL ret own nm h0 n0 ws T h cells slots) (wc : (Cond.code y bytes' maxL' ret').before a0 Z = true) (wz : (Cond.initialized y.cls).before a0 Z = true) (hf : rm.frames + 1 ≤ R.frames) (hl : W + (maxL' + 11) + rm.locals ≤ R.locals) :
    Back l R p e below s args y len W (fun A a => a = as' ∧ A.U.heap = h ∧ A.cells + rm.cells ≤ R.cells ∧ A.slots + rm.slots ≤ R.slots) (fun A _ v B => ∃ L, QQ h n0 ws' Po v B.U.heap L ∧ B.locs = A.locs ++ L ∧ B.cells = A.cells + rm.cells ∧ B.slots = A.slots + rm.slots) := backOf hM X.zv wc wz hf hl
theorem nf_sel {C : String} {y : MethodName} (w : (Cond.selects C y y).before a0 Z = true) : ∀ s' : State, Z.Warmed39 s'.vm → NotFace s' y := fun s' hz => notFace_of_selects (args := #[]) (mvT hz w)
theorem qq_fr {ws' : List Addr} {Po : Option Value → Heap → Prop} : ∀ v h' L, QQ h n0 ws' Po v h' L → Fr n0 L ∧ Keep h h' ws' := fun _ _ _ q => ⟨q.1, q.2.1⟩
theorem nP (cap : Nat) {aty : ArrayType} {n : Int32} {ad : String} (X : Here p l e R s m args below meth c Z bytes maxL ret own nm h0 n0 ws T h cells slots) (w : (Cond.arrayClass (newarray.typeOf aty)).before a0 Z = true) (hd : decode bytes pc = .ok (.newarray aty, 2)) (hp : pc + 2 = pc') (hq : ¬ n < 0 ∧ n.toNatClampNeg ≤ cap ∧ cap * 8 ≤ 536870912 ∧ cells + 1 ≤ R.cells ∧ slots + cap ≤ R.slots) (had : "[" ++ (newarray.typeOf aty).toString = ad)
    (k : ∀ T' h' b ka, Here p l e R s m args below meth c Z bytes maxL ret own nm h0 n0 ws T' h' (cells + 1) (slots + cap) → b = h.size → b < h'.size → Ext h h' → Arv Z h' b ka (newarray.typeOf aty) n [] (defaultValue (newarray.typeOf aty)) → Exa Z h' b ad → Go p.tables e below P (T'.setTop (mkF m pc' Ls (.ref b :: st)))) : Go p.tables e below P (T.setTop (mkF m pc Ls (.int n :: st))) := o_newP pc' X w hd hp hq.1 hq.2.1 hq.2.2.1 hq.2.2.2.1 hq.2.2.2.2 had k
theorem had_byte : "[" ++ (newarray.typeOf .byte).toString = "[B" := by decide +kernel
theorem had_char : "[" ++ (newarray.typeOf .char).toString = "[C" := by decide +kernel
theorem sC (i : Nat) (y : Int32) {a : Addr} {ka : ClassId} {n j x : Int32} {vs : List Value} {d : Value} (X : Here p l e R s m args below meth c Z bytes maxL ret own nm h0 n0 ws T h cells slots) (F : Arv Z h a ka .char n vs d) (hj : (¬ j < 0 ∧ j < n) ∧ j.toNatClampNeg = i) (hil : i < vs.length) (hv : nar .char x = y) (hd : decode bytes pc = .ok (.castore, 1)) (hp : pc + 1 = pc') (hn0 : n0 ≤ a) (hws : a ∈ ws ∨ h0.size ≤ a)
    (k : ∀ T' h', Here p l e R s m args below meth c Z bytes maxL ret own nm h0 n0 ws T' h' cells slots → (∃ sl w, Wr h h' a sl w) → Arv Z h' a ka .char n (vs.set i (.int y)) d → Go p.tables e below P (T'.setTop (mkF m pc' Ls st))) : Go p.tables e below P (T.setTop (mkF m pc Ls (.int x :: .int j :: .ref a :: st))) := o_stC pc' X F hj.1 hj.2 hil hv hd hp hn0 hws k
theorem sB (i : Nat) (y : Int32) {a : Addr} {ka : ClassId} {n j x : Int32} {vs : List Value} {d : Value} (X : Here p l e R s m args below meth c Z bytes maxL ret own nm h0 n0 ws T h cells slots) (F : Arv Z h a ka .byte n vs d) (hj : (¬ j < 0 ∧ j < n) ∧ j.toNatClampNeg = i) (hil : i < vs.length) (hv : nar .byte x = y) (hd : decode bytes pc = .ok (.bastore, 1)) (hp : pc + 1 = pc') (hn0 : n0 ≤ a) (hws : a ∈ ws ∨ h0.size ≤ a)
    (k : ∀ T' h', Here p l e R s m args below meth c Z bytes maxL ret own nm h0 n0 ws T' h' cells slots → (∃ sl w, Wr h h' a sl w) → Arv Z h' a ka .byte n (vs.set i (.int y)) d → Go p.tables e below P (T'.setTop (mkF m pc' Ls st))) : Go p.tables e below P (T.setTop (mkF m pc Ls (.int x :: .int j :: .ref a :: st))) := o_stB pc' X F hj.1 hj.2 hil hv hd hp hn0 hws k
def WS_static (Z : State) (a0 : Array Value) (own : String) (index : Nat) (y : MethodName) (bytes' : ByteArray) (maxL' : Nat) (ret' : Option FieldType) (an : Nat) : Prop := ((Cond.methodLink own index y).before a0 Z = true) ∧ ((Cond.static y).before a0 Z = true) ∧ ((Cond.initialized y.cls).before a0 Z = true) ∧ ((Cond.code y bytes' maxL' ret').before a0 Z = true) ∧ (y.cls ≠ "java/lang/invoke/MethodHandle" ∧ y.cls ≠ "java/lang/invoke/VarHandle") ∧ (∀ sig, parseMethodDescriptor y.desc = some sig → an = sig.parameters.length)
theorem mS (W : Nat) {index : Nat} {y : MethodName} {bytes' : ByteArray} {maxL' : Nat} {ret' : Option FieldType} {rm : Room} {ws' : List Addr} {argsL : List Value} {Po : Option Value → Heap → Prop} (X : Here p l e R s m args below meth c Z bytes maxL ret own nm h0 n0 ws T h cells slots) (hM : Old Z n0 h → Met l y bytes' maxL' ret' [] rm Z argsL.toArray h n0 ws' Po) (hv : WS_static Z a0 own index y bytes' maxL' ret' argsL.length) (hd : decode bytes pc = .ok (.invokestatic index, 3)) (hp : pc + 3 = pc') (hsz : Ls.size = maxL) (hstk : st = argsL.reverse ++ rest) (hW : (rest.map fun v => v.category).sum ≤ W) (hr : rm.frames + 1 ≤ R.frames ∧ W + (maxL' + 11) + rm.locals ≤ R.locals ∧ cells + rm.cells ≤ R.cells ∧ slots + rm.slots ≤ R.slots) (hws : ∀ x ∈ ws', n0 ≤ x ∧ (x ∈ ws ∨ h0.size ≤ x))
    (k : ∀ v T' h', Here p l e R s m args below meth c Z bytes maxL ret own nm h0 n0 ws T' h' (cells + rm.cells) (slots + rm.slots) → Po v h' → Keep h h' ws' → h.size ≤ h'.size → Go p.tables e below P (T'.setTop (mkF m pc' Ls (v.toList ++ rest)))) : Go p.tables e below P (T.setTop (mkF m pc Ls st)) := by
  obtain ⟨g0, g1, g2, g3, g4, g5⟩ := hv
  exact o_static pc' X g0 g1 g2 g3 g4 g5 (back_met (hM X.old) X g3 g2 hr.1 hr.2.1) hd hp hsz hstk hW hr.2.2.1 hr.2.2.2 qq_fr hws (fun v T' h' L X' q K => k v T' h' X' q.2.2 K K.1)
def WS_special (Z : State) (a0 : Array Value) (own : String) (index : Nat) (y : MethodName) (bytes' : ByteArray) (maxL' : Nat) (an : Nat) : Prop := ((Cond.initialized y.cls).before a0 Z = true) ∧ (y.name = "<init>") ∧ ((Cond.methodLink own index y).before a0 Z = true) ∧ ((Cond.instanceMethod y).before a0 Z = true) ∧ ((Cond.code y bytes' maxL' none).before a0 Z = true) ∧ (y.cls ≠ "java/lang/invoke/MethodHandle" ∧ y.cls ≠ "java/lang/invoke/VarHandle") ∧ (∀ sig, parseMethodDescriptor y.desc = some sig → an = sig.parameters.length)
theorem mP (W : Nat) {b : Addr} {index : Nat} {y : MethodName} {bytes' : ByteArray} {maxL' : Nat} {rm : Room} {ws' : List Addr} {argsL : List Value} {Po : Option Value → Heap → Prop} (X : Here p l e R s m args below meth c Z bytes maxL ret own nm h0 n0 ws T h cells slots) (hM : Old Z n0 h → Met l y bytes' maxL' none [] rm Z (.ref b :: argsL).toArray h n0 ws' Po) (hv : WS_special Z a0 own index y bytes' maxL' argsL.length) (hd : decode bytes pc = .ok (.invokespecial index, 3)) (hp : pc + 3 = pc') (hsz : Ls.size = maxL) (hstk : st = argsL.reverse ++ .ref b :: rest) (hW : (rest.map fun v => v.category).sum ≤ W) (hr : rm.frames + 1 ≤ R.frames ∧ W + (maxL' + 11) + rm.locals ≤ R.locals ∧ cells + rm.cells ≤ R.cells ∧ slots + rm.slots ≤ R.slots) (hws : ∀ x ∈ ws', n0 ≤ x ∧ (x ∈ ws ∨ h0.size ≤ x))
    (k : ∀ v T' h', Here p l e R s m args below meth c Z bytes maxL ret own nm h0 n0 ws T' h' (cells + rm.cells) (slots + rm.slots) → Po v h' → Keep h h' ws' → h.size ≤ h'.size → Go p.tables e below P (T'.setTop (mkF m pc' Ls (v.toList ++ rest)))) : Go p.tables e below P (T.setTop (mkF m pc Ls st)) := by
  obtain ⟨gz, g0, g1, g2, g3, g4, g5⟩ := hv
  exact o_special pc' X g0 g1 g2 g3 g4 g5 (back_met (hM X.old) X g3 gz hr.1 hr.2.1) hd hp hsz hstk hW hr.2.2.1 hr.2.2.2 qq_fr hws (fun v T' h' L X' q K => k v T' h' X' q.2.2 K K.1)
def WS_virtual (Z : State) (a0 : Array Value) (own : String) (index : Nat) (C : String) (y z : MethodName) (bytes' : ByteArray) (maxL' : Nat) (ret' : Option FieldType) (an : Nat) : Prop := ((Cond.code z bytes' maxL' ret').before a0 Z = true) ∧ ((Cond.initialized z.cls).before a0 Z = true) ∧ ((Cond.methodLink own index y).before a0 Z = true) ∧ ((Cond.declares y).before a0 Z = true) ∧ ((Cond.selects C y z).before a0 Z = true) ∧ ((Cond.instanceMethod z).before a0 Z = true) ∧ (∀ s' : State, Z.Warmed39 s'.vm → NotFace s' y) ∧ (y.cls ≠ "java/lang/invoke/MethodHandle" ∧ y.cls ≠ "java/lang/invoke/VarHandle") ∧ (∀ sig, parseMethodDescriptor y.desc = some sig → an = sig.parameters.length)
theorem mV (W : Nat) {b : Addr} {index : Nat} {C : String} {y z : MethodName} {bytes' : ByteArray} {maxL' : Nat} {ret' : Option FieldType} {rm : Room} {ws' : List Addr} {argsL : List Value} {Po : Option Value → Heap → Prop} (X : Here p l e R s m args below meth c Z bytes maxL ret own nm h0 n0 ws T h cells slots) (E : Exa Z h b C) (hM : Old Z n0 h → Met l z bytes' maxL' ret' [] rm Z (.ref b :: argsL).toArray h n0 ws' Po) (hv : WS_virtual Z a0 own index C y z bytes' maxL' ret' argsL.length) (hd : decode bytes pc = .ok (.invokevirtual index, 3)) (hp : pc + 3 = pc') (hsz : Ls.size = maxL) (hstk : st = argsL.reverse ++ .ref b :: rest) (hW : (rest.map fun v => v.category).sum ≤ W) (hr : rm.frames + 1 ≤ R.frames ∧ W + (maxL' + 11) + rm.locals ≤ R.locals ∧ cells + rm.cells ≤ R.cells ∧ slots + rm.slots ≤ R.slots) (hws : ∀ x ∈ ws', n0 ≤ x ∧ (x ∈ ws ∨ h0.size ≤ x))
    (k : ∀ v T' h', Here p l e R s m args below meth c Z bytes maxL ret own nm h0 n0 ws T' h' (cells + rm.cells) (slots + rm.slots) → Po v h' → Keep h h' ws' → h.size ≤ h'.size → Go p.tables e below P (T'.setTop (mkF m pc' Ls (v.toList ++ rest)))) : Go p.tables e below P (T.setTop (mkF m pc Ls st)) := by
  obtain ⟨gc, gz, g0, g1, g2, g3, g4, g5, g6⟩ := hv
  exact o_virtual pc' X E g0 g1 g2 g3 g4 g5 g6 (back_met (hM X.old) X gc gz hr.1 hr.2.1) hd hp hsz hstk hW hr.2.2.1 hr.2.2.2 qq_fr hws (fun v T' h' L X' q K => k v T' h' X' q.2.2 K K.1)
def WS_iface (Z : State) (a0 : Array Value) (own : String) (index : Nat) (C : String) (y z : MethodName) (bytes' : ByteArray) (maxL' : Nat) (ret' : Option FieldType) (an : Nat) : Prop := ((Cond.code z bytes' maxL' ret').before a0 Z = true) ∧ ((Cond.initialized z.cls).before a0 Z = true) ∧ ((Cond.methodLink own index y).before a0 Z = true) ∧ ((Cond.declares y).before a0 Z = true) ∧ ((Cond.interfaceMethod y.cls y.cls y.name y.desc).before a0 Z = true) ∧ ((Cond.selects C y z).before a0 Z = true) ∧ ((Cond.instanceMethod z).before a0 Z = true) ∧ ((Cond.publicMethod z).before a0 Z = true) ∧ ((Cond.unhidden C y.name y.desc).before a0 Z = true) ∧ ((Cond.castable C y.cls).before a0 Z = true) ∧ (((Cond.interfaceMethod y.cls y.cls y.name y.desc).onTables && (Cond.interfaceMethod y.cls y.cls y.name y.desc).keepsFace) = true) ∧ (y.cls ≠ "java/lang/invoke/MethodHandle" ∧ y.cls ≠ "java/lang/invoke/VarHandle") ∧ (∀ sig, parseMethodDescriptor y.desc = some sig → an = sig.parameters.length)
theorem mF (W : Nat) {b : Addr} {index count : Nat} {C : String} {y z : MethodName} {bytes' : ByteArray} {maxL' : Nat} {ret' : Option FieldType} {rm : Room} {ws' : List Addr} {argsL : List Value} {Po : Option Value → Heap → Prop} (X : Here p l e R s m args below meth c Z bytes maxL ret own nm h0 n0 ws T h cells slots) (E : Exa Z h b C) (hM : Old Z n0 h → Met l z bytes' maxL' ret' [] rm Z (.ref b :: argsL).toArray h n0 ws' Po) (hv : WS_iface Z a0 own index C y z bytes' maxL' ret' argsL.length) (hd : decode bytes pc = .ok (.invokeinterface index count, 5)) (hp : pc + 5 = pc') (hsz : Ls.size = maxL) (hstk : st = argsL.reverse ++ .ref b :: rest) (hW : (rest.map fun v => v.category).sum ≤ W) (hr : rm.frames + 1 ≤ R.frames ∧ W + (maxL' + 11) + rm.locals ≤ R.locals ∧ cells + rm.cells ≤ R.cells ∧ slots + rm.slots ≤ R.slots) (hws : ∀ x ∈ ws', n0 ≤ x ∧ (x ∈ ws ∨ h0.size ≤ x))
    (k : ∀ v T' h', Here p l e R s m args below meth c Z bytes maxL ret own nm h0 n0 ws T' h' (cells + rm.cells) (slots + rm.slots) → Po v h' → Keep h h' ws' → h.size ≤ h'.size → Go p.tables e below P (T'.setTop (mkF m pc' Ls (v.toList ++ rest)))) : Go p.tables e below P (T.setTop (mkF m pc Ls st)) := by
  obtain ⟨gc, gz, g0, g1, g2, g3, g4, g5, g6, g7, g8, g9, g10⟩ := hv
  exact o_iface pc' X E g0 g1 g2 g3 g4 g5 g6 g7 g8 g9 g10 (back_met (hM X.old) X gc gz hr.1 hr.2.1) hd hp hsz hstk hW hr.2.2.1 hr.2.2.2 qq_fr hws (fun v T' h' L X' q K => k v T' h' X' q.2.2 K K.1)
theorem sk (st' : List Value) (q : st = st') (k : Go p.tables e below P (T.setTop (mkF m pc Ls st'))) : Go p.tables e below P (T.setTop (mkF m pc Ls st)) := q ▸ k
def BI (y : MethodName) (own nm : String) : Prop := plainFor y = true ∧ y.cls = own ∧ y.name = nm
theorem mi {y : MethodName} {wl : List Cond} {as' : Array Value} {Po : Option Value → Heap → Prop} (hB : BI y own nm) (hef : ∀ m, entryFrame m as' maxL = mkF m 0 Ls [])
    (body : ∀ {p e m below meth c s₁} s, Here p l e R s m as' below meth c Z bytes maxL ret own nm h0 n0 ws s₁ h0 0 0 → n0 ≤ h0.size → Go p.tables e below (PO s R h0 n0 ws Po) (s₁.setTop (mkF m 0 Ls []))) : Old Z n0 h0 → Met l y bytes maxL ret wl R Z as' h0 n0 ws Po := fun O =>
  met_intro hB.1 hB.2.1 hB.2.2 O fun p e s m below meth c s₁ X => Go.cast (hef m) (body s X X.n0le)
theorem aI {a : Addr} {L : List Addr} (q : n0 ≤ a) (q2 : a ∈ ws) (r : ∀ x ∈ L, n0 ≤ x ∧ (x ∈ ws ∨ h0.size ≤ x)) : ∀ x ∈ a :: L, n0 ≤ x ∧ (x ∈ ws ∨ h0.size ≤ x) := allS ⟨q, Or.inl q2⟩ r
theorem aR {a : Addr} {L : List Addr} (q : n0 ≤ a ∧ h0.size ≤ a) (r : ∀ x ∈ L, n0 ≤ x ∧ (x ∈ ws ∨ h0.size ≤ x)) : ∀ x ∈ a :: L, n0 ≤ x ∧ (x ∈ ws ∨ h0.size ≤ x) := allS ⟨q.1, Or.inr q.2⟩ r
end Kit
end Jvm.OwnKit
namespace Jvm.OwnKit
open Sem ClassFile Op Lib Jvm.Stand Jvm.Free Jvm.LawKit Jvm.RoadKit
section Common
variable {Z : State} {h : Heap} {a0 : Array Value}
theorem own_ne {a b : Nat} (h : a < b ∨ b < a) : a ≠ b := fun q => by omega
theorem own_c255 (x c : Int32) (e : (x &&& (255 : Int32)).toUInt32.toUInt16.toUInt32.toInt32 = c) : ¬ c < 0 ∧ ¬ (255 : Int32) < c := by
  subst e
  have t : ∀ k : Fin 256, ¬ ((Int32.ofNat k.val).toUInt32.toUInt16.toUInt32.toInt32) < 0 ∧ ¬ (255 : Int32) < ((Int32.ofNat k.val).toUInt32.toUInt16.toUInt32.toInt32) := by decide +kernel
  have h : (x &&& 255).toBitVec.toNat < 256 := by
    simp only [Int32.toBitVec_and, BitVec.toNat_and]
    exact Nat.lt_succ_of_le Nat.and_le_right
  have e : (x &&& 255) = Int32.ofNat (x &&& 255).toBitVec.toNat := by
    apply Int32.toBitVec_inj.mp
    show _ = BitVec.ofNat 32 _
    rw [BitVec.ofNat_toNat]; simp
  rw [e]
  exact t ⟨_, h⟩
theorem own_and15 (x : Int32) : (¬ ((15 : Int32) &&& x) < 0 ∧ ((15 : Int32) &&& x) < (16 : Int32)) ∧ ((15 : Int32) &&& x).toNatClampNeg < 16 := by
  have t : ∀ k : Fin 16, (¬ (Int32.ofNat k.val) < 0 ∧ (Int32.ofNat k.val) < (16 : Int32)) ∧ (Int32.ofNat k.val).toNatClampNeg < 16 := by decide +kernel
  have h : ((15 : Int32) &&& x).toBitVec.toNat < 16 := by
    simp only [Int32.toBitVec_and, BitVec.toNat_and]
    exact Nat.lt_succ_of_le Nat.and_le_left
  have e : ((15 : Int32) &&& x) = Int32.ofNat ((15 : Int32) &&& x).toBitVec.toNat := by
    apply Int32.toBitVec_inj.mp
    show _ = BitVec.ofNat 32 _
    rw [BitVec.ofNat_toNat]; simp
  rw [e]
  exact t ⟨_, h⟩
theorem own_getNull (n i : Nat) : (List.replicate n Value.null).getD i .null = .null := by
  rw [List.getD_eq_getElem?_getD, List.getElem?_replicate]
  split <;> rfl
theorem own_narC {c : Int32} (r : ¬ c < 0 ∧ ¬ (255 : Int32) < c) : nar .char c = c := by
  have t : ∀ k : Fin 256, nar .char (Int32.ofNat k.val) = Int32.ofNat k.val := by decide +kernel
  have h1 : 0 ≤ c.toInt := by have q := r.1; rw [Int32.lt_iff_toInt_lt] at q; have e : (0 : Int32).toInt = 0 := rfl; omega
  have h2 : c.toInt ≤ 255 := by have q := r.2; rw [Int32.lt_iff_toInt_lt] at q; have e : (255 : Int32).toInt = 255 := rfl; omega
  have e : c = Int32.ofNat c.toInt.toNat := by
    apply Int32.toInt_inj.mp
    rw [Int32.toInt_ofNat_of_lt (by omega)]
    omega
  rw [e]
  exact t ⟨c.toInt.toNat, by omega⟩
theorem own_narB (x : Int32) : nar .byte (x.toInt8.toInt32) = x.toInt8.toInt32 := by simp [nar]
theorem own_empty {args : Array Value} {s : State} {C n d E : String} {ty : FieldType} (hf : Fit s) (wI : (Cond.initialized C).before args s = true) (w3 : (Cond.laysStatic C n d).before args s = true) (hd : parseFieldDescriptor d = some (.array ty))
    (w5 : (Cond.arrayOf (Term.static C n d) ty).before args s = true) (w4 : (Cond.exactly (Term.static C n d) E).before args s = true) (w6 : (Cond.eq (Term.length (Term.static C n d)) (Term.int 0)).before args s = true) :
    ∃ (a : Addr) (k : ClassId), Sta s s.heap C n d (.ref a) ∧ Arv s s.heap a k ty (0 : Int32) [] .null ∧ Exa s s.heap a E := by
  obtain ⟨v, ev, -⟩ := static_fit hf w3 hd
  obtain ⟨a, cell, rfl, hA, harr, hvm⟩ := Jvm.Free.IntBox.arrayOf_fwd w5 ev
  obtain ⟨hsz, hsize⟩ := Jvm.Free.IntBox.length_fwd w6 ev hA harr hvm
  have h0 : cell.slots.size = 0 := by
    have e : (cell.slots.size.toInt32).toInt = cell.slots.size := by
      have : (cell.slots.size.toInt32).toInt = (cell.slots.size : Int).bmod (2 ^ 32) := by simp [Nat.toInt32, Int32.size]
      rw [this]; simp [Int.bmod]; omega
    rw [hsize] at e
    have : ((0 : Int32)).toInt = 0 := by decide
    omega
  exact ⟨a, cell.cls, Sta.start ev (Or.inr ⟨wI, w3⟩), ⟨cell, ⟨hA, harr, hvm⟩, rfl, by rw [h0]; decide, by decide, fun k hk => absurd hk (by omega), fun k hk => absurd hk (by omega)⟩, exa_at ev (Cond.before_iff.mp w4)⟩
theorem own_sto {h : Heap} {Z : State} {a0 : Array Value} {a y : Addr} {ka : ClassId} {ty : FieldType} {n : Int32} {vs : List Value} {d : Value} {C D : String} (A : Arv Z h a ka ty n vs d) (O : Ovr Z ka C) (E : Exa Z h y D) (w : (Cond.castable D C).before a0 Z = true) : Sto Z h a (.ref y) := by
  obtain ⟨cl, A1, q1, -⟩ := A
  exact Sto.of A1 (q1 ▸ O) (Ins.of_exa E w)
end Common
end Jvm.OwnKit
namespace Jvm.RoadKit
open Sem ClassFile Op Lib Jvm.Stand Jvm.Free Jvm.LawKit Jvm.OwnKit
section Squeeze
variable {Z : State} {h h' : Heap} {a b c d : Addr} {C n dd : String} {v w : Value} {sl : Nat} {k : ClassId} {ty : FieldType} {z : Int32} {vs : List Value} {dv : Value}
theorem Exa.l (F : Exa Z h a C) : @LT.lt Nat _ a h.size := F.lt
theorem Fld.l (F : Fld Z h a C n dd w) : @LT.lt Nat _ a h.size := F.lt
theorem Arv.l (F : Arv Z h a k ty z vs dv) : @LT.lt Nat _ a h.size := F.lt
theorem Fld.oth (F : Fld Z h b C n dd w) (W : Wr h h' a sl v) (q : @LT.lt Nat _ b a ∨ @LT.lt Nat _ a b) : Fld Z h' b C n dd w := Fld.other W F (Or.inl (own_ne q))
theorem Fld.k0 (F : Fld Z h b C n dd w) (K : Keep h h' []) : Fld Z h' b C n dd w := F.keep K nin0
theorem Fld.k1 (F : Fld Z h b C n dd w) (K : Keep h h' [a]) (q : @LT.lt Nat _ b a ∨ @LT.lt Nat _ a b) : Fld Z h' b C n dd w := F.keep K (ninS (own_ne q) nin0)
theorem Fld.k2 (F : Fld Z h b C n dd w) (K : Keep h h' [a, c]) (q : (@LT.lt Nat _ b a ∨ @LT.lt Nat _ a b) ∧ (@LT.lt Nat _ b c ∨ @LT.lt Nat _ c b)) : Fld Z h' b C n dd w := F.keep K (ninS (own_ne q.1) (ninS (own_ne q.2) nin0))
theorem Arv.oth (F : Arv Z h b k ty z vs dv) (W : Wr h h' a sl v) (q : @LT.lt Nat _ b a ∨ @LT.lt Nat _ a b) : Arv Z h' b k ty z vs dv := F.other W (own_ne q)
theorem Arv.k0 (F : Arv Z h b k ty z vs dv) (K : Keep h h' []) : Arv Z h' b k ty z vs dv := F.keep K nin0
theorem Arv.k1 (F : Arv Z h b k ty z vs dv) (K : Keep h h' [a]) (q : @LT.lt Nat _ b a ∨ @LT.lt Nat _ a b) : Arv Z h' b k ty z vs dv := F.keep K (ninS (own_ne q) nin0)
theorem Arv.k2 (F : Arv Z h b k ty z vs dv) (K : Keep h h' [a, c]) (q : (@LT.lt Nat _ b a ∨ @LT.lt Nat _ a b) ∧ (@LT.lt Nat _ b c ∨ @LT.lt Nat _ c b)) : Arv Z h' b k ty z vs dv := F.keep K (ninS (own_ne q.1) (ninS (own_ne q.2) nin0))
theorem Arv.as (F : Arv Z h b k ty z vs dv) (vs' : List Value) (q : vs = vs') : Arv Z h b k ty z vs' dv := q ▸ F
end Squeeze
end Jvm.RoadKit
namespace Jvm.OwnKit
open Sem ClassFile Op Lib Jvm.Stand Jvm.Free Jvm.LawKit Jvm.RoadKit
abbrev NE (a b : Addr) : Prop := Nat.succ a ≠ Nat.succ b
abbrev DC (c : ByteArray) (pc : Nat) (i : Instr) (n : Nat) : Prop := decode c pc = .ok (i, n)
abbrev i0 : Value := .int 0
abbrev uu : Slot := .unset
abbrev rr (a : Addr) : Slot := .val (.ref a)
abbrev ii (n : Int32) : Slot := .val (.int n)
theorem lr {n : Nat} : n ≤ n := Nat.le_refl n
theorem lb {a b : Nat} (h : Nat.ble (a + 1) b = true) : a < b := Nat.le_of_ble_eq_true h
theorem lenN {d : String} {n : Nat} {g : MethodDescriptor} (h : parseMethodDescriptor d = some g) (q : n = g.parameters.length) : ∀ sig, parseMethodDescriptor d = some sig → n = sig.parameters.length := fun sig e => by cases h.symm.trans e; exact q
theorem wm {α : Type _} {l : List α} {i : Nat} {a : α} (h : l[i]? = some a) : a ∈ l := List.mem_of_getElem? h
end Jvm.OwnKit

namespace Jvm.Pilot.@@N@@
open Jvm Jvm.ClassFile Sem Op Lib Jvm.Free Jvm.Stand Jvm.LawKit Jvm.RoadKit Bundle Jvm.Pilot.@@N@@.Jvm.D Jvm.OwnKit

theorem w_36 {a0 : Array Value} {Z : State} (hw : ∀ d ∈ tables_1, d.before a0 Z = true) : (Jvm.Cond.initialized "java/util/ArrayList").before a0 Z = true := hw _ (List.mem_of_getElem? (i := 36) rfl)
section Walks
set_option maxRecDepth 65536
set_option maxHeartbeats 40000000
abbrev ex0 (Z : State) (h : Heap) (a : Addr) : Prop := Exa Z h a "[B"
abbrev ex1 (Z : State) (h : Heap) (a : Addr) : Prop := Exa Z h a "java/lang/String"
abbrev ex2 (Z : State) (h : Heap) (a : Addr) : Prop := Exa Z h a "java/util/ArrayList"
abbrev ex3 (Z : State) (h : Heap) (a : Addr) : Prop := Exa Z h a "[Ljava/lang/Object;"
abbrev ex4 (Z : State) (h : Heap) (a : Addr) : Prop := Exa Z h a "java/util/LinkedHashMap"
abbrev ex5 (Z : State) (h : Heap) (a : Addr) : Prop := Exa Z h a "[Ljava/util/HashMap$Node;"
abbrev ex6 (Z : State) (h : Heap) (a : Addr) : Prop := Exa Z h a "java/util/LinkedHashMap$Entry"
abbrev ex7 (Z : State) (h : Heap) (a : Addr) : Prop := Exa Z h a "java/util/Collections$UnmodifiableMap"
abbrev ex8 (Z : State) (h : Heap) (a : Addr) : Prop := Exa Z h a "com/example/hedgerow/hedgerow/records/Record"
abbrev fd0 (Z : State) (h : Heap) (a : Addr) (v : Value) : Prop := Fld Z h a "java/lang/String" "coder" "B" v
abbrev fd1 (Z : State) (h : Heap) (a : Addr) (v : Value) : Prop := Fld Z h a "java/lang/String" "value" "[B" v
abbrev fd2 (Z : State) (h : Heap) (a : Addr) (v : Value) : Prop := Fld Z h a "java/lang/String" "hash" "I" v
abbrev fd3 (Z : State) (h : Heap) (a : Addr) (v : Value) : Prop := Fld Z h a "java/lang/String" "hashIsZero" "Z" v
abbrev fd4 (Z : State) (h : Heap) (a : Addr) (v : Value) : Prop := Fld Z h a "java/util/AbstractList" "modCount" "I" v
abbrev fd5 (Z : State) (h : Heap) (a : Addr) (v : Value) : Prop := Fld Z h a "java/util/ArrayList" "elementData" "[Ljava/lang/Object;" v
abbrev fd6 (Z : State) (h : Heap) (a : Addr) (v : Value) : Prop := Fld Z h a "java/util/ArrayList" "size" "I" v
abbrev fd7 (Z : State) (h : Heap) (a : Addr) (v : Value) : Prop := Fld Z h a "java/util/HashMap" "loadFactor" "F" v
abbrev fd8 (Z : State) (h : Heap) (a : Addr) (v : Value) : Prop := Fld Z h a "java/util/LinkedHashMap" "putMode" "I" v
abbrev fd9 (Z : State) (h : Heap) (a : Addr) (v : Value) : Prop := Fld Z h a "java/util/LinkedHashMap" "accessOrder" "Z" v
abbrev fd10 (Z : State) (h : Heap) (a : Addr) (v : Value) : Prop := Fld Z h a "java/util/HashMap" "table" "[Ljava/util/HashMap$Node;" v
abbrev fd11 (Z : State) (h : Heap) (a : Addr) (v : Value) : Prop := Fld Z h a "java/util/HashMap" "threshold" "I" v
abbrev fd12 (Z : State) (h : Heap) (a : Addr) (v : Value) : Prop := Fld Z h a "java/util/LinkedHashMap" "tail" "Ljava/util/LinkedHashMap$Entry;" v
abbrev fd13 (Z : State) (h : Heap) (a : Addr) (v : Value) : Prop := Fld Z h a "java/util/LinkedHashMap" "head" "Ljava/util/LinkedHashMap$Entry;" v
abbrev fd14 (Z : State) (h : Heap) (a : Addr) (v : Value) : Prop := Fld Z h a "java/util/HashMap" "modCount" "I" v
abbrev fd15 (Z : State) (h : Heap) (a : Addr) (v : Value) : Prop := Fld Z h a "java/util/HashMap" "size" "I" v
abbrev fd16 (Z : State) (h : Heap) (a : Addr) (v : Value) : Prop := Fld Z h a "java/util/HashMap$Node" "hash" "I" v
abbrev fd17 (Z : State) (h : Heap) (a : Addr) (v : Value) : Prop := Fld Z h a "java/util/HashMap$Node" "key" "Ljava/lang/Object;" v
abbrev fd18 (Z : State) (h : Heap) (a : Addr) (v : Value) : Prop := Fld Z h a "java/util/HashMap$Node" "value" "Ljava/lang/Object;" v
abbrev fd19 (Z : State) (h : Heap) (a : Addr) (v : Value) : Prop := Fld Z h a "java/util/HashMap$Node" "next" "Ljava/util/HashMap$Node;" v
abbrev fd20 (Z : State) (h : Heap) (a : Addr) (v : Value) : Prop := Fld Z h a "com/example/hedgerow/hedgerow/records/Record" "id" "Ljava/lang/String;" v
abbrev fd21 (Z : State) (h : Heap) (a : Addr) (v : Value) : Prop := Fld Z h a "com/example/hedgerow/hedgerow/records/Record" "object" "Ljava/lang/String;" v
abbrev fd22 (Z : State) (h : Heap) (a : Addr) (v : Value) : Prop := Fld Z h a "com/example/hedgerow/hedgerow/records/Record" "owner" "Ljava/lang/String;" v
abbrev fd23 (Z : State) (h : Heap) (a : Addr) (v : Value) : Prop := Fld Z h a "com/example/hedgerow/hedgerow/records/Record" "fields" "Ljava/util/Map;" v
abbrev fd24 (Z : State) (h : Heap) (a : Addr) (v : Value) : Prop := Fld Z h a "java/util/Collections$UnmodifiableMap" "m" "Ljava/util/Map;" v
abbrev av0 (Z : State) (h : Heap) (a : Addr) (k : ClassId) (z : Int32) (vs : List Value) : Prop := Arv Z h a k .byte z vs (.int (0 : Int32))
abbrev av1 (Z : State) (h : Heap) (a : Addr) (k : ClassId) (z : Int32) (vs : List Value) : Prop := Arv Z h a k .char z vs (.int (0 : Int32))
abbrev av2 (Z : State) (h : Heap) (a : Addr) (k : ClassId) (z : Int32) (vs : List Value) : Prop := Arv Z h a k (.object "java/lang/Object") z vs .null
abbrev av3 (Z : State) (h : Heap) (a : Addr) (k : ClassId) (z : Int32) (vs : List Value) : Prop := Arv Z h a k (.object "java/util/HashMap$Node") z vs .null
abbrev MM (y : MethodName) (b : ByteArray) (m : Nat) (t : Option FieldType) (l : Launch) (Z : State) (f c s o : Nat) (as' : Array Value) (h0 : Heap) (n0 : Nat) (ws : List Addr) (Po : Option Value → Heap → Prop) : Prop := Old Z n0 h0 → Met l y b m t [] ⟨f, c, s, o⟩ Z as' h0 n0 ws Po
abbrev GL (l : Launch) (Z : State) (a0 : Array Value) (zc : Int32) (dce : Addr) (kdce : ClassId) (eed : Addr) (keed : ClassId) (mrlh : Addr) (mrum : Addr) : Prop := (∀ d ∈ tables_1, d.before a0 Z = true) ∧ (Sta Z Z.heap "java/lang/String" "COMPACT_STRINGS" "Z" (.int zc)) ∧ (¬ (zc = (0 : Int32))) ∧ (Sta Z Z.heap "java/util/ArrayList" "DEFAULTCAPACITY_EMPTY_ELEMENTDATA" "[Ljava/lang/Object;" (.ref dce)) ∧ (Arv Z Z.heap dce kdce (.object "java/lang/Object") (0 : Int32) [] .null) ∧ (Exa Z Z.heap dce "[Ljava/lang/Object;") ∧ (Sta Z Z.heap "java/util/ArrayList" "EMPTY_ELEMENTDATA" "[Ljava/lang/Object;" (.ref eed)) ∧ (Arv Z Z.heap eed keed (.object "java/lang/Object") (0 : Int32) [] .null) ∧ (Exa Z Z.heap eed "[Ljava/lang/Object;") ∧ (Mir Z "java/util/LinkedHashMap" mrlh) ∧ (Mir Z "java/util/Collections$UnmodifiableMap" mrum)
variable {l : Launch} {Z : State} {a0 : Array Value} {zc : Int32} {dce : Addr} {kdce : ClassId} {eed : Addr} {keed : ClassId} {mrlh : Addr} {mrum : Addr}
section Words
variable (G : GL l Z a0 zc dce kdce eed keed mrlh mrum)
def sg8 := G.2.1
def hzc := G.2.2.1
def sg6 := G.2.2.2.1
def sg0 := G.2.2.2.2.1
def sg2 := G.2.2.2.2.2.1
def sg7 := G.2.2.2.2.2.2.1
def sg1 := G.2.2.2.2.2.2.2.1
def sg3 := G.2.2.2.2.2.2.2.2.1
def sg4 := G.2.2.2.2.2.2.2.2.2.1
def sg5 := G.2.2.2.2.2.2.2.2.2.2
def w0 := G.1 _ (wm (i := 0) rfl)
def w1 := G.1 _ (wm (i := 1) rfl)
def w2 := G.1 _ (wm (i := 2) rfl)
def w3 := G.1 _ (wm (i := 3) rfl)
def w4 := G.1 _ (wm (i := 4) rfl)
def w5 := G.1 _ (wm (i := 5) rfl)
def w6 := G.1 _ (wm (i := 6) rfl)
def w7 := G.1 _ (wm (i := 7) rfl)
def w8 := G.1 _ (wm (i := 8) rfl)
def w9 := G.1 _ (wm (i := 9) rfl)
def w10 := G.1 _ (wm (i := 10) rfl)
def w11 := G.1 _ (wm (i := 11) rfl)
def w12 := G.1 _ (wm (i := 12) rfl)
def w14 := G.1 _ (wm (i := 14) rfl)
def w15 := G.1 _ (wm (i := 15) rfl)
def w16 := G.1 _ (wm (i := 16) rfl)
def w17 := G.1 _ (wm (i := 17) rfl)
def w18 := G.1 _ (wm (i := 18) rfl)
def w19 := G.1 _ (wm (i := 19) rfl)
def w20 := G.1 _ (wm (i := 20) rfl)
def w21 := G.1 _ (wm (i := 21) rfl)
def w22 := G.1 _ (wm (i := 22) rfl)
def w23 := G.1 _ (wm (i := 23) rfl)
def w24 := G.1 _ (wm (i := 24) rfl)
def w25 := G.1 _ (wm (i := 25) rfl)
def w26 := G.1 _ (wm (i := 26) rfl)
def w27 := G.1 _ (wm (i := 27) rfl)
def w28 := G.1 _ (wm (i := 28) rfl)
def w29 := G.1 _ (wm (i := 29) rfl)
def w30 := G.1 _ (wm (i := 30) rfl)
def w31 := G.1 _ (wm (i := 31) rfl)
def w32 := G.1 _ (wm (i := 32) rfl)
def w33 := G.1 _ (wm (i := 33) rfl)
def w34 := G.1 _ (wm (i := 34) rfl)
def w35 := G.1 _ (wm (i := 35) rfl)
def w36 := G.1 _ (wm (i := 36) rfl)
def w37 := G.1 _ (wm (i := 37) rfl)
def w38 := G.1 _ (wm (i := 38) rfl)
def w39 := G.1 _ (wm (i := 39) rfl)
def w40 := G.1 _ (wm (i := 40) rfl)
def w41 := G.1 _ (wm (i := 41) rfl)
def w44 := G.1 _ (wm (i := 44) rfl)
def w45 := G.1 _ (wm (i := 45) rfl)
def w46 := G.1 _ (wm (i := 46) rfl)
def w47 := G.1 _ (wm (i := 47) rfl)
def w50 := G.1 _ (wm (i := 50) rfl)
def w51 := G.1 _ (wm (i := 51) rfl)
def w52 := G.1 _ (wm (i := 52) rfl)
def w53 := G.1 _ (wm (i := 53) rfl)
def w54 := G.1 _ (wm (i := 54) rfl)
def w55 := G.1 _ (wm (i := 55) rfl)
def w56 := G.1 _ (wm (i := 56) rfl)
def w57 := G.1 _ (wm (i := 57) rfl)
def w58 := G.1 _ (wm (i := 58) rfl)
def w59 := G.1 _ (wm (i := 59) rfl)
def w60 := G.1 _ (wm (i := 60) rfl)
def w61 := G.1 _ (wm (i := 61) rfl)
def w62 := G.1 _ (wm (i := 62) rfl)
def w63 := G.1 _ (wm (i := 63) rfl)
def w64 := G.1 _ (wm (i := 64) rfl)
def w65 := G.1 _ (wm (i := 65) rfl)
def w66 := G.1 _ (wm (i := 66) rfl)
def w67 := G.1 _ (wm (i := 67) rfl)
def w68 := G.1 _ (wm (i := 68) rfl)
def w70 := G.1 _ (wm (i := 70) rfl)
def w71 := G.1 _ (wm (i := 71) rfl)
def w72 := G.1 _ (wm (i := 72) rfl)
def w73 := G.1 _ (wm (i := 73) rfl)
def w75 := G.1 _ (wm (i := 75) rfl)
def w76 := G.1 _ (wm (i := 76) rfl)
def w77 := G.1 _ (wm (i := 77) rfl)
def w78 := G.1 _ (wm (i := 78) rfl)
def w80 := G.1 _ (wm (i := 80) rfl)
def w81 := G.1 _ (wm (i := 81) rfl)
def w82 := G.1 _ (wm (i := 82) rfl)
def w83 := G.1 _ (wm (i := 83) rfl)
def w84 := G.1 _ (wm (i := 84) rfl)
def w85 := G.1 _ (wm (i := 85) rfl)
def w86 := G.1 _ (wm (i := 86) rfl)
def w87 := G.1 _ (wm (i := 87) rfl)
def w88 := G.1 _ (wm (i := 88) rfl)
def w89 := G.1 _ (wm (i := 89) rfl)
def w90 := G.1 _ (wm (i := 90) rfl)
def w91 := G.1 _ (wm (i := 91) rfl)
def w92 := G.1 _ (wm (i := 92) rfl)
def w93 := G.1 _ (wm (i := 93) rfl)
def w94 := G.1 _ (wm (i := 94) rfl)
def w95 := G.1 _ (wm (i := 95) rfl)
def w96 := G.1 _ (wm (i := 96) rfl)
def w97 := G.1 _ (wm (i := 97) rfl)
def w98 := G.1 _ (wm (i := 98) rfl)
def w99 := G.1 _ (wm (i := 99) rfl)
def w100 := G.1 _ (wm (i := 100) rfl)
def w103 := G.1 _ (wm (i := 103) rfl)
def w104 := G.1 _ (wm (i := 104) rfl)
def w105 := G.1 _ (wm (i := 105) rfl)
def w106 := G.1 _ (wm (i := 106) rfl)
def w109 := G.1 _ (wm (i := 109) rfl)
def w110 := G.1 _ (wm (i := 110) rfl)
def w111 := G.1 _ (wm (i := 111) rfl)
def w112 := G.1 _ (wm (i := 112) rfl)
def w113 := G.1 _ (wm (i := 113) rfl)
def w114 := G.1 _ (wm (i := 114) rfl)
def w115 := G.1 _ (wm (i := 115) rfl)
def w116 := G.1 _ (wm (i := 116) rfl)
def w117 := G.1 _ (wm (i := 117) rfl)
def w118 := G.1 _ (wm (i := 118) rfl)
def w119 := G.1 _ (wm (i := 119) rfl)
def w120 := G.1 _ (wm (i := 120) rfl)
def w121 := G.1 _ (wm (i := 121) rfl)
def w122 := G.1 _ (wm (i := 122) rfl)
def w123 := G.1 _ (wm (i := 123) rfl)
def w124 := G.1 _ (wm (i := 124) rfl)
def w125 := G.1 _ (wm (i := 125) rfl)
def w126 := G.1 _ (wm (i := 126) rfl)
def w127 := G.1 _ (wm (i := 127) rfl)
def w128 := G.1 _ (wm (i := 128) rfl)
def w129 := G.1 _ (wm (i := 129) rfl)
def w130 := G.1 _ (wm (i := 130) rfl)
def w131 := G.1 _ (wm (i := 131) rfl)
def w132 := G.1 _ (wm (i := 132) rfl)
def w133 := G.1 _ (wm (i := 133) rfl)
def w134 := G.1 _ (wm (i := 134) rfl)
def w135 := G.1 _ (wm (i := 135) rfl)
def w136 := G.1 _ (wm (i := 136) rfl)
def w137 := G.1 _ (wm (i := 137) rfl)
def w138 := G.1 _ (wm (i := 138) rfl)
def w139 := G.1 _ (wm (i := 139) rfl)
def w140 := G.1 _ (wm (i := 140) rfl)
def w141 := G.1 _ (wm (i := 141) rfl)
def w142 := G.1 _ (wm (i := 142) rfl)
def w143 := G.1 _ (wm (i := 143) rfl)
def w144 := G.1 _ (wm (i := 144) rfl)
def w145 := G.1 _ (wm (i := 145) rfl)
def w146 := G.1 _ (wm (i := 146) rfl)
def w147 := G.1 _ (wm (i := 147) rfl)
def w148 := G.1 _ (wm (i := 148) rfl)
def w149 := G.1 _ (wm (i := 149) rfl)
def w150 := G.1 _ (wm (i := 150) rfl)
def w151 := G.1 _ (wm (i := 151) rfl)
def w152 := G.1 _ (wm (i := 152) rfl)
def w153 := G.1 _ (wm (i := 153) rfl)
def w154 := G.1 _ (wm (i := 154) rfl)
def w155 := G.1 _ (wm (i := 155) rfl)
def w156 := G.1 _ (wm (i := 156) rfl)
def w157 := G.1 _ (wm (i := 157) rfl)
def w158 := G.1 _ (wm (i := 158) rfl)
def w159 := G.1 _ (wm (i := 159) rfl)
def w160 := G.1 _ (wm (i := 160) rfl)
def w161 := G.1 _ (wm (i := 161) rfl)
def w162 := G.1 _ (wm (i := 162) rfl)
def w163 := G.1 _ (wm (i := 163) rfl)
def w165 := G.1 _ (wm (i := 165) rfl)
def w166 := G.1 _ (wm (i := 166) rfl)
def w167 := G.1 _ (wm (i := 167) rfl)
def w168 := G.1 _ (wm (i := 168) rfl)
def w169 := G.1 _ (wm (i := 169) rfl)
def w170 := G.1 _ (wm (i := 170) rfl)
def w171 := G.1 _ (wm (i := 171) rfl)
def w172 := G.1 _ (wm (i := 172) rfl)
def w173 := G.1 _ (wm (i := 173) rfl)
def w174 := G.1 _ (wm (i := 174) rfl)
def w175 := G.1 _ (wm (i := 175) rfl)
def w176 := G.1 _ (wm (i := 176) rfl)
def w177 := G.1 _ (wm (i := 177) rfl)
def w178 := G.1 _ (wm (i := 178) rfl)
def w179 := G.1 _ (wm (i := 179) rfl)
def w180 := G.1 _ (wm (i := 180) rfl)
def w181 := G.1 _ (wm (i := 181) rfl)
def w182 := G.1 _ (wm (i := 182) rfl)
def w183 := G.1 _ (wm (i := 183) rfl)
def w184 := G.1 _ (wm (i := 184) rfl)
def w185 := G.1 _ (wm (i := 185) rfl)
def w187 := G.1 _ (wm (i := 187) rfl)
def w188 := G.1 _ (wm (i := 188) rfl)
def w189 := G.1 _ (wm (i := 189) rfl)
def w190 := G.1 _ (wm (i := 190) rfl)
def w191 := G.1 _ (wm (i := 191) rfl)
def w192 := G.1 _ (wm (i := 192) rfl)
def w193 := G.1 _ (wm (i := 193) rfl)
def w194 := G.1 _ (wm (i := 194) rfl)
def w195 := G.1 _ (wm (i := 195) rfl)
def w196 := G.1 _ (wm (i := 196) rfl)
def w197 := G.1 _ (wm (i := 197) rfl)
def w198 := G.1 _ (wm (i := 198) rfl)
def w199 := G.1 _ (wm (i := 199) rfl)
def w200 := G.1 _ (wm (i := 200) rfl)
def w201 := G.1 _ (wm (i := 201) rfl)
def w202 := G.1 _ (wm (i := 202) rfl)
def w203 := G.1 _ (wm (i := 203) rfl)
def w204 := G.1 _ (wm (i := 204) rfl)
def w205 := G.1 _ (wm (i := 205) rfl)
def w206 := G.1 _ (wm (i := 206) rfl)
def w207 := G.1 _ (wm (i := 207) rfl)
def w209 := G.1 _ (wm (i := 209) rfl)
def w210 := G.1 _ (wm (i := 210) rfl)
def w211 := G.1 _ (wm (i := 211) rfl)
def w212 := G.1 _ (wm (i := 212) rfl)
def w213 := G.1 _ (wm (i := 213) rfl)
def w214 := G.1 _ (wm (i := 214) rfl)
def w215 := G.1 _ (wm (i := 215) rfl)
def w216 := G.1 _ (wm (i := 216) rfl)
def w218 := G.1 _ (wm (i := 218) rfl)
def w219 := G.1 _ (wm (i := 219) rfl)
def w220 := G.1 _ (wm (i := 220) rfl)
def w222 := G.1 _ (wm (i := 222) rfl)
def w223 := G.1 _ (wm (i := 223) rfl)
def w224 := G.1 _ (wm (i := 224) rfl)
def w225 := G.1 _ (wm (i := 225) rfl)
def w226 := G.1 _ (wm (i := 226) rfl)
def w227 := G.1 _ (wm (i := 227) rfl)
def w228 := G.1 _ (wm (i := 228) rfl)
def w229 := G.1 _ (wm (i := 229) rfl)
def w230 := G.1 _ (wm (i := 230) rfl)
def w231 := G.1 _ (wm (i := 231) rfl)
def w232 := G.1 _ (wm (i := 232) rfl)
def w233 := G.1 _ (wm (i := 233) rfl)
def w234 := G.1 _ (wm (i := 234) rfl)
def w235 := G.1 _ (wm (i := 235) rfl)
def w237 := G.1 _ (wm (i := 237) rfl)
def w238 := G.1 _ (wm (i := 238) rfl)
def w239 := G.1 _ (wm (i := 239) rfl)
def w240 := G.1 _ (wm (i := 240) rfl)
def w241 := G.1 _ (wm (i := 241) rfl)
def w242 := G.1 _ (wm (i := 242) rfl)
def w243 := G.1 _ (wm (i := 243) rfl)
def w244 := G.1 _ (wm (i := 244) rfl)
def w245 := G.1 _ (wm (i := 245) rfl)
def w246 := G.1 _ (wm (i := 246) rfl)
def w247 := G.1 _ (wm (i := 247) rfl)
def w248 := G.1 _ (wm (i := 248) rfl)
def w250 := G.1 _ (wm (i := 250) rfl)
def w251 := G.1 _ (wm (i := 251) rfl)
def w252 := G.1 _ (wm (i := 252) rfl)
def w253 := G.1 _ (wm (i := 253) rfl)
def w254 := G.1 _ (wm (i := 254) rfl)
def w255 := G.1 _ (wm (i := 255) rfl)
def w256 := G.1 _ (wm (i := 256) rfl)
def w257 := G.1 _ (wm (i := 257) rfl)
def w258 := G.1 _ (wm (i := 258) rfl)
def w259 := G.1 _ (wm (i := 259) rfl)
def w260 := G.1 _ (wm (i := 260) rfl)
def w261 := G.1 _ (wm (i := 261) rfl)
def w262 := G.1 _ (wm (i := 262) rfl)
def w263 := G.1 _ (wm (i := 263) rfl)
def w264 := G.1 _ (wm (i := 264) rfl)
def w265 := G.1 _ (wm (i := 265) rfl)
def w266 := G.1 _ (wm (i := 266) rfl)
def w267 := G.1 _ (wm (i := 267) rfl)
def w268 := G.1 _ (wm (i := 268) rfl)
def w269 := G.1 _ (wm (i := 269) rfl)
def w270 := G.1 _ (wm (i := 270) rfl)
def w271 := G.1 _ (wm (i := 271) rfl)
def w273 := G.1 _ (wm (i := 273) rfl)
def w275 := G.1 _ (wm (i := 275) rfl)
def w276 := G.1 _ (wm (i := 276) rfl)
def w277 := G.1 _ (wm (i := 277) rfl)
def w278 := G.1 _ (wm (i := 278) rfl)
def w279 := G.1 _ (wm (i := 279) rfl)
def w280 := G.1 _ (wm (i := 280) rfl)
def w281 := G.1 _ (wm (i := 281) rfl)
def w282 := G.1 _ (wm (i := 282) rfl)
def w283 := G.1 _ (wm (i := 283) rfl)
def w284 := G.1 _ (wm (i := 284) rfl)
def w285 := G.1 _ (wm (i := 285) rfl)
def w286 := G.1 _ (wm (i := 286) rfl)
def w287 := G.1 _ (wm (i := 287) rfl)
def w289 := G.1 _ (wm (i := 289) rfl)
def w290 := G.1 _ (wm (i := 290) rfl)
def w291 := G.1 _ (wm (i := 291) rfl)
def w292 := G.1 _ (wm (i := 292) rfl)
def w293 := G.1 _ (wm (i := 293) rfl)
def w294 := G.1 _ (wm (i := 294) rfl)
def w295 := G.1 _ (wm (i := 295) rfl)
def w296 := G.1 _ (wm (i := 296) rfl)
def w297 := G.1 _ (wm (i := 297) rfl)
def w298 := G.1 _ (wm (i := 298) rfl)
def w299 := G.1 _ (wm (i := 299) rfl)
def w300 := G.1 _ (wm (i := 300) rfl)
def w301 := G.1 _ (wm (i := 301) rfl)
def w302 := G.1 _ (wm (i := 302) rfl)
def w303 := G.1 _ (wm (i := 303) rfl)
def w304 := G.1 _ (wm (i := 304) rfl)
def w305 := G.1 _ (wm (i := 305) rfl)
def w306 := G.1 _ (wm (i := 306) rfl)
def w307 := G.1 _ (wm (i := 307) rfl)
def w308 := G.1 _ (wm (i := 308) rfl)
def w309 := G.1 _ (wm (i := 309) rfl)
def w310 := G.1 _ (wm (i := 310) rfl)
def w311 := G.1 _ (wm (i := 311) rfl)
def w312 := G.1 _ (wm (i := 312) rfl)
def w313 := G.1 _ (wm (i := 313) rfl)
def w314 := G.1 _ (wm (i := 314) rfl)
def w315 := G.1 _ (wm (i := 315) rfl)
def w316 := G.1 _ (wm (i := 316) rfl)
def w317 := G.1 _ (wm (i := 317) rfl)
def w318 := G.1 _ (wm (i := 318) rfl)
def w319 := G.1 _ (wm (i := 319) rfl)
def w320 := G.1 _ (wm (i := 320) rfl)
def w321 := G.1 _ (wm (i := 321) rfl)
def w322 := G.1 _ (wm (i := 322) rfl)
def w323 := G.1 _ (wm (i := 323) rfl)
def w324 := G.1 _ (wm (i := 324) rfl)
def w325 := G.1 _ (wm (i := 325) rfl)
def w326 := G.1 _ (wm (i := 326) rfl)
theorem ef0 {x0 : Addr} (m : MethodId) : entryFrame m #[(.ref x0)] 2 = mkF m 0 #[.val (.ref x0), .unset] [] := by simp [entryFrame, mkF, argsToLocals, Value.category, maxLocals]
theorem pn_java_lang_String : plainName "java/lang/String" = true := by first | decide +kernel | (simp [plainName, overriddenIn]; done)
abbrev y0 : MethodName := ⟨"java/lang/String", "hashCode", "()I"⟩
theorem B0 : BI y0 "java/lang/String" "hashCode" := ⟨(plainFor_of_name pn_java_lang_String), rfl, rfl⟩
abbrev c0 := jdk_42_method_78_code
theorem d0_0 : DC c0 0 (.aload_n 0) 1 := by decide +kernel
theorem d0_1 : DC c0 1 (.getfield 19) 3 := by decide +kernel
theorem d0_4 : DC c0 4 (.istore_n 1) 1 := by decide +kernel
theorem d0_5 : DC c0 5 (.iload_n 1) 1 := by decide +kernel
theorem d0_6 : DC c0 6 (.ifCond .ne 52) 3 := by decide +kernel
theorem d0_9 : DC c0 9 (.aload_n 0) 1 := by decide +kernel
theorem d0_10 : DC c0 10 (.getfield 23) 3 := by decide +kernel
theorem d0_13 : DC c0 13 (.ifCond .ne 45) 3 := by decide +kernel
theorem d0_16 : DC c0 16 (.aload_n 0) 1 := by decide +kernel
theorem d0_17 : DC c0 17 (.invokevirtual 492) 3 := by decide +kernel
theorem ef1 {x0 : Addr} (m : MethodId) : entryFrame m #[(.ref x0)] 1 = mkF m 0 #[.val (.ref x0)] [] := by simp [entryFrame, mkF, argsToLocals, Value.category, maxLocals]
abbrev y1 : MethodName := ⟨"java/lang/String", "isLatin1", "()Z"⟩
theorem B1 : BI y1 "java/lang/String" "isLatin1" := ⟨(plainFor_of_name pn_java_lang_String), rfl, rfl⟩
abbrev c1 := jdk_42_method_154_code
theorem d1_0 : DC c1 0 (.getstatic 38) 3 := by decide +kernel
theorem d1_3 : DC c1 3 (.ifCond .eq 14) 3 := by decide +kernel
theorem d1_6 : DC c1 6 (.aload_n 0) 1 := by decide +kernel
theorem d1_7 : DC c1 7 (.getfield 15) 3 := by decide +kernel
theorem d1_10 : DC c1 10 (.ifCond .ne 7) 3 := by decide +kernel
theorem d1_13 : DC c1 13 (.iconst 1) 1 := by decide +kernel
theorem d1_14 : DC c1 14 (.goto 4) 3 := by decide +kernel
theorem d1_18 : DC c1 18 .ireturn 1 := by decide +kernel
abbrev M1 := MM y1 c1 1 (some .boolean)
theorem pd_0 : parseMethodDescriptor "()Z" = some ⟨[], (some .boolean)⟩ := by decide +kernel
def u0 : WS_virtual Z a0 "java/lang/String" 492 "java/lang/String" y1 y1 c1 1 (some .boolean) 0 := ⟨(w176 G), (w7 G), (w172 G), (w173 G), (w175 G), (w174 G), (nf_sel (w175 G)), by decide +kernel, lenN pd_0 rfl⟩
theorem d0_20 : DC c0 20 (.ifCond .eq 13) 3 := by decide +kernel
theorem d0_23 : DC c0 23 (.aload_n 0) 1 := by decide +kernel
theorem d0_24 : DC c0 24 (.getfield 9) 3 := by decide +kernel
theorem d0_27 : DC c0 27 (.invokestatic 628) 3 := by decide +kernel
theorem pn_java_lang_StringLatin1 : plainName "java/lang/StringLatin1" = true := by first | decide +kernel | (simp [plainName, overriddenIn]; done)
abbrev y2 : MethodName := ⟨"java/lang/StringLatin1", "hashCode", "([B)I"⟩
theorem B2 : BI y2 "java/lang/StringLatin1" "hashCode" := ⟨(plainFor_of_name pn_java_lang_StringLatin1), rfl, rfl⟩
abbrev c2 := jdk_43_method_21_code
theorem d2_0 : DC c2 0 (.aload_n 0) 1 := by decide +kernel
theorem d2_1 : DC c2 1 .arraylength 1 := by decide +kernel
theorem d2_2 : DC c2 2 (.lookupswitch 40 #[(0, 26), (1, 30)]) 26 := by decide +kernel
theorem d2_42 : DC c2 42 (.aload_n 0) 1 := by decide +kernel
theorem d2_43 : DC c2 43 (.iconst 0) 1 := by decide +kernel
theorem d2_44 : DC c2 44 (.aload_n 0) 1 := by decide +kernel
theorem d2_45 : DC c2 45 .arraylength 1 := by decide +kernel
theorem d2_46 : DC c2 46 (.iconst 0) 1 := by decide +kernel
theorem d2_47 : DC c2 47 (.iconst 4) 1 := by decide +kernel
theorem d2_48 : DC c2 48 (.invokestatic 84) 3 := by decide +kernel
theorem ef2 {x0 : Addr} {x1 : Int32} {x2 : Int32} {x3 : Int32} {x4 : Int32} (m : MethodId) : entryFrame m #[(.ref x0), (.int x1), (.int x2), (.int x3), (.int x4)] 5 = mkF m 0 #[.val (.ref x0), .val (.int x1), .val (.int x2), .val (.int x3), .val (.int x4)] [] := by simp [entryFrame, mkF, argsToLocals, Value.category, maxLocals]
theorem pn_jdk_internal_util_ArraysSupport : plainName "jdk/internal/util/ArraysSupport" = true := by first | decide +kernel | (simp [plainName, overriddenIn]; done)
abbrev y3 : MethodName := ⟨"jdk/internal/util/ArraysSupport", "vectorizedHashCode", "(Ljava/lang/Object;IIII)I"⟩
theorem B3 : BI y3 "jdk/internal/util/ArraysSupport" "vectorizedHashCode" := ⟨(plainFor_of_name pn_jdk_internal_util_ArraysSupport), rfl, rfl⟩
abbrev c3 := jdk_48_method_4_code
theorem d3_0 : DC c3 0 (.iload 4) 2 := by decide +kernel
theorem d3_2 : DC c3 2 (.tableswitch 127 4 10 #[42, 55, 127, 127, 88, 101, 114]) 42 := by decide +kernel
theorem d3_44 : DC c3 44 (.iload_n 3) 1 := by decide +kernel
theorem d3_45 : DC c3 45 (.aload_n 0) 1 := by decide +kernel
theorem d3_46 : DC c3 46 (.checkcast 60) 3 := by decide +kernel
theorem d3_49 : DC c3 49 (.iload_n 1) 1 := by decide +kernel
theorem d3_50 : DC c3 50 (.iload_n 2) 1 := by decide +kernel
theorem d3_51 : DC c3 51 (.invokestatic 62) 3 := by decide +kernel
theorem ef3 {x0 : Int32} {x1 : Addr} {x2 : Int32} {x3 : Int32} (m : MethodId) : entryFrame m #[(.int x0), (.ref x1), (.int x2), (.int x3)] 6 = mkF m 0 #[.val (.int x0), .val (.ref x1), .val (.int x2), .val (.int x3), .unset, .unset] [] := by simp [entryFrame, mkF, argsToLocals, Value.category, maxLocals]
abbrev y4 : MethodName := ⟨"jdk/internal/util/ArraysSupport", "signedHashCode", "(I[BII)I"⟩
theorem B4 : BI y4 "jdk/internal/util/ArraysSupport" "signedHashCode" := ⟨(plainFor_of_name pn_jdk_internal_util_ArraysSupport), rfl, rfl⟩
abbrev c4 := jdk_48_method_5_code
theorem d4_0 : DC c4 0 (.iload_n 2) 1 := by decide +kernel
theorem d4_1 : DC c4 1 (.iload_n 3) 1 := by decide +kernel
theorem d4_2 : DC c4 2 .iadd 1 := by decide +kernel
theorem d4_3 : DC c4 3 (.istore 4) 2 := by decide +kernel
theorem d4_5 : DC c4 5 (.iload_n 2) 1 := by decide +kernel
theorem d4_6 : DC c4 6 (.istore 5) 2 := by decide +kernel
theorem d4_8 : DC c4 8 (.iload 5) 2 := by decide +kernel
theorem d4_10 : DC c4 10 (.iload 4) 2 := by decide +kernel
theorem d4_12 : DC c4 12 (.if_icmp .ge 23) 3 := by decide +kernel
theorem d4_15 : DC c4 15 (.bipush 31) 2 := by decide +kernel
theorem d4_17 : DC c4 17 (.iload_n 0) 1 := by decide +kernel
theorem d4_18 : DC c4 18 .imul 1 := by decide +kernel
theorem d4_19 : DC c4 19 (.aload_n 1) 1 := by decide +kernel
theorem d4_20 : DC c4 20 (.iload 5) 2 := by decide +kernel
theorem d4_22 : DC c4 22 .baload 1 := by decide +kernel
theorem d4_23 : DC c4 23 (.sipush 255) 3 := by decide +kernel
theorem d4_26 : DC c4 26 .iand 1 := by decide +kernel
theorem d4_27 : DC c4 27 .iadd 1 := by decide +kernel
theorem d4_28 : DC c4 28 (.istore_n 0) 1 := by decide +kernel
theorem d4_29 : DC c4 29 (.iinc 5 1) 3 := by decide +kernel
theorem d4_32 : DC c4 32 (.goto (-24)) 3 := by decide +kernel
theorem d4_35 : DC c4 35 (.iload_n 0) 1 := by decide +kernel
theorem d4_36 : DC c4 36 .ireturn 1 := by decide +kernel
abbrev M4 := MM y4 c4 6 (some .int)
theorem pd_1 : parseMethodDescriptor "(I[BII)I" = some ⟨[.int, (.array .byte), .int, .int], (some .int)⟩ := by decide +kernel
def u1 : WS_static Z a0 "jdk/internal/util/ArraysSupport" 62 y4 c4 6 (some .int) 4 := ⟨(w187 G), (w188 G), (w183 G), (w189 G), by decide +kernel, lenN pd_1 rfl⟩
theorem d3_54 : DC c3 54 (.goto 103) 3 := by decide +kernel
theorem d3_157 : DC c3 157 .ireturn 1 := by decide +kernel
abbrev M3 := MM y3 c3 5 (some .int)
theorem pd_2 : parseMethodDescriptor "(Ljava/lang/Object;IIII)I" = some ⟨[(.object "java/lang/Object"), .int, .int, .int, .int], (some .int)⟩ := by decide +kernel
def u2 : WS_static Z a0 "java/lang/StringLatin1" 84 y3 c3 5 (some .int) 5 := ⟨(w181 G), (w182 G), (w183 G), (w184 G), by decide +kernel, lenN pd_2 rfl⟩
theorem d2_51 : DC c2 51 .ireturn 1 := by decide +kernel
abbrev M2 := MM y2 c2 1 (some .int)
theorem pd_3 : parseMethodDescriptor "([B)I" = some ⟨[(.array .byte)], (some .int)⟩ := by decide +kernel
def u3 : WS_static Z a0 "java/lang/String" 628 y2 c2 1 (some .int) 1 := ⟨(w177 G), (w178 G), (w179 G), (w180 G), by decide +kernel, lenN pd_3 rfl⟩
theorem d0_30 : DC c0 30 (.goto 10) 3 := by decide +kernel
theorem d0_40 : DC c0 40 (.istore_n 1) 1 := by decide +kernel
theorem d0_41 : DC c0 41 (.iload_n 1) 1 := by decide +kernel
theorem d0_42 : DC c0 42 (.ifCond .ne 11) 3 := by decide +kernel
theorem d0_45 : DC c0 45 (.aload_n 0) 1 := by decide +kernel
theorem d0_46 : DC c0 46 (.iconst 1) 1 := by decide +kernel
theorem d0_47 : DC c0 47 (.putfield 23) 3 := by decide +kernel
theorem fd_0 : parseFieldDescriptor "Z" = some .boolean := by decide +kernel
theorem d0_50 : DC c0 50 (.goto 8) 3 := by decide +kernel
theorem d0_58 : DC c0 58 (.iload_n 1) 1 := by decide +kernel
theorem d0_59 : DC c0 59 .ireturn 1 := by decide +kernel
theorem fd_1 : parseFieldDescriptor "B" = some .byte := by decide +kernel
def sn0 := slot_ne (Or.inr (w31 G)) (Or.inl (w171 G)) (by decide +kernel) (t := .byte) (t' := .boolean) fd_1 fd_0
theorem fd_2 : parseFieldDescriptor "[B" = some (.array .byte) := by decide +kernel
def sn1 := slot_ne (Or.inr (w33 G)) (Or.inl (w171 G)) (by decide +kernel) (t := (.array .byte)) (t' := .boolean) fd_2 fd_0
theorem d0_53 : DC c0 53 (.aload_n 0) 1 := by decide +kernel
theorem d0_54 : DC c0 54 (.iload_n 1) 1 := by decide +kernel
theorem d0_55 : DC c0 55 (.putfield 19) 3 := by decide +kernel
theorem fd_3 : parseFieldDescriptor "I" = some .int := by decide +kernel
def sn2 := slot_ne (Or.inr (w31 G)) (Or.inl (w169 G)) (by decide +kernel) (t := .byte) (t' := .int) fd_1 fd_3
def sn3 := slot_ne (Or.inr (w33 G)) (Or.inl (w169 G)) (by decide +kernel) (t := (.array .byte)) (t' := .int) fd_2 fd_3
abbrev M0 := MM y0 c0 2 (some .int)
theorem ef4 {x0 : Int32} {x1 : Int32} {x2 : Int32} {x3 : Int32} {x4 : Int32} (m : MethodId) : entryFrame m #[(.int x0), (.int x1), (.int x2), (.int x3), (.int x4)] maxLocals = mkF m 0 #[.val (.int x0), .val (.int x1), .val (.int x2), .val (.int x3), .val (.int x4), .unset, .unset, .unset, .unset, .unset, .unset, .unset, .unset, .unset] [] := by simp [entryFrame, mkF, argsToLocals, Value.category, maxLocals]
theorem pn_com_example_hedgerow_hedgerow_records_RecordWithOwnerPinLaw : plainName "com/example/hedgerow/hedgerow/records/RecordWithOwnerPinLaw" = true := by first | decide +kernel | (simp [plainName, overriddenIn]; done)
theorem B5 : BI x "com/example/hedgerow/hedgerow/records/RecordWithOwnerPinLaw" "law" := ⟨(plainFor_of_name pn_com_example_hedgerow_hedgerow_records_RecordWithOwnerPinLaw), rfl, rfl⟩
theorem ef5 {x0 : Int32} (m : MethodId) : entryFrame m #[(.int x0)] 2 = mkF m 0 #[.val (.int x0), .unset] [] := by simp [entryFrame, mkF, argsToLocals, Value.category, maxLocals]
abbrev y5 : MethodName := ⟨"com/example/hedgerow/hedgerow/records/RecordWithOwnerPinLaw", "s2", "(I)Ljava/lang/String;"⟩
theorem B6 : BI y5 "com/example/hedgerow/hedgerow/records/RecordWithOwnerPinLaw" "s2" := ⟨(plainFor_of_name pn_com_example_hedgerow_hedgerow_records_RecordWithOwnerPinLaw), rfl, rfl⟩
abbrev c6 := method_2_code
theorem d6_0 : DC c6 0 (.iconst 2) 1 := by decide +kernel
theorem d6_1 : DC c6 1 (.newarray .char) 2 := by decide +kernel
theorem d6_3 : DC c6 3 (.astore_n 1) 1 := by decide +kernel
theorem d6_4 : DC c6 4 (.aload_n 1) 1 := by decide +kernel
theorem d6_5 : DC c6 5 (.iconst 0) 1 := by decide +kernel
theorem d6_6 : DC c6 6 (.iload_n 0) 1 := by decide +kernel
theorem d6_7 : DC c6 7 (.sipush 255) 3 := by decide +kernel
theorem d6_10 : DC c6 10 .iand 1 := by decide +kernel
theorem d6_11 : DC c6 11 .i2c 1 := by decide +kernel
theorem d6_12 : DC c6 12 .castore 1 := by decide +kernel
theorem d6_13 : DC c6 13 (.aload_n 1) 1 := by decide +kernel
theorem d6_14 : DC c6 14 (.iconst 1) 1 := by decide +kernel
theorem d6_15 : DC c6 15 (.iload_n 0) 1 := by decide +kernel
theorem d6_16 : DC c6 16 (.bipush 8) 2 := by decide +kernel
theorem d6_18 : DC c6 18 .iushr 1 := by decide +kernel
theorem d6_19 : DC c6 19 (.sipush 255) 3 := by decide +kernel
theorem d6_22 : DC c6 22 .iand 1 := by decide +kernel
theorem d6_23 : DC c6 23 .i2c 1 := by decide +kernel
theorem d6_24 : DC c6 24 .castore 1 := by decide +kernel
theorem d6_25 : DC c6 25 (.new 7) 3 := by decide +kernel
theorem d6_28 : DC c6 28 .dup 1 := by decide +kernel
theorem d6_29 : DC c6 29 (.aload_n 1) 1 := by decide +kernel
theorem d6_30 : DC c6 30 (.invokespecial 9) 3 := by decide +kernel
theorem ef6 {x0 : Addr} {x1 : Addr} (m : MethodId) : entryFrame m #[(.ref x0), (.ref x1)] 2 = mkF m 0 #[.val (.ref x0), .val (.ref x1)] [] := by simp [entryFrame, mkF, argsToLocals, Value.category, maxLocals]
abbrev y6 : MethodName := ⟨"java/lang/String", "<init>", "([C)V"⟩
theorem B7 : BI y6 "java/lang/String" "<init>" := ⟨(plainFor_of_name pn_java_lang_String), rfl, rfl⟩
abbrev c7 := jdk_42_method_3_code
theorem d7_0 : DC c7 0 (.aload_n 0) 1 := by decide +kernel
theorem d7_1 : DC c7 1 (.aload_n 1) 1 := by decide +kernel
theorem d7_2 : DC c7 2 (.iconst 0) 1 := by decide +kernel
theorem d7_3 : DC c7 3 (.aload_n 1) 1 := by decide +kernel
theorem d7_4 : DC c7 4 .arraylength 1 := by decide +kernel
theorem d7_5 : DC c7 5 .aconst_null 1 := by decide +kernel
theorem d7_6 : DC c7 6 (.invokespecial 27) 3 := by decide +kernel
theorem ef7 {x0 : Addr} {x1 : Addr} {x2 : Int32} {x3 : Int32} (m : MethodId) : entryFrame m #[(.ref x0), (.ref x1), (.int x2), (.int x3), .null] 6 = mkF m 0 #[.val (.ref x0), .val (.ref x1), .val (.int x2), .val (.int x3), .val .null, .unset] [] := by simp [entryFrame, mkF, argsToLocals, Value.category, maxLocals]
abbrev y7 : MethodName := ⟨"java/lang/String", "<init>", "([CIILjava/lang/Void;)V"⟩
theorem B8 : BI y7 "java/lang/String" "<init>" := ⟨(plainFor_of_name pn_java_lang_String), rfl, rfl⟩
abbrev c8 := jdk_42_method_149_code
theorem d8_0 : DC c8 0 (.aload_n 0) 1 := by decide +kernel
theorem d8_1 : DC c8 1 (.invokespecial 1) 3 := by decide +kernel
theorem d8_4 : DC c8 4 (.iload_n 3) 1 := by decide +kernel
theorem d8_5 : DC c8 5 (.ifCond .ne 22) 3 := by decide +kernel
theorem d8_27 : DC c8 27 (.getstatic 38) 3 := by decide +kernel
theorem d8_30 : DC c8 30 (.ifCond .eq 28) 3 := by decide +kernel
theorem d8_33 : DC c8 33 (.aload_n 1) 1 := by decide +kernel
theorem d8_34 : DC c8 34 (.iload_n 2) 1 := by decide +kernel
theorem d8_35 : DC c8 35 (.iload_n 3) 1 := by decide +kernel
theorem d8_36 : DC c8 36 (.invokestatic 177) 3 := by decide +kernel
theorem ef8 {x0 : Addr} {x1 : Int32} {x2 : Int32} (m : MethodId) : entryFrame m #[(.ref x0), (.int x1), (.int x2)] 6 = mkF m 0 #[.val (.ref x0), .val (.int x1), .val (.int x2), .unset, .unset, .unset] [] := by simp [entryFrame, mkF, argsToLocals, Value.category, maxLocals]
theorem pn_java_lang_StringUTF16 : plainName "java/lang/StringUTF16" = true := by first | decide +kernel | (simp [plainName, overriddenIn]; done)
abbrev y8 : MethodName := ⟨"java/lang/StringUTF16", "compress", "([CII)[B"⟩
theorem B9 : BI y8 "java/lang/StringUTF16" "compress" := ⟨(plainFor_of_name pn_java_lang_StringUTF16), rfl, rfl⟩
abbrev c9 := jdk_52_method_16_code
theorem d9_0 : DC c9 0 (.iload_n 2) 1 := by decide +kernel
theorem d9_1 : DC c9 1 (.newarray .byte) 2 := by decide +kernel
theorem d9_3 : DC c9 3 (.astore_n 3) 1 := by decide +kernel
theorem d9_4 : DC c9 4 (.aload_n 0) 1 := by decide +kernel
theorem d9_5 : DC c9 5 (.iload_n 1) 1 := by decide +kernel
theorem d9_6 : DC c9 6 (.aload_n 3) 1 := by decide +kernel
theorem d9_7 : DC c9 7 (.iconst 0) 1 := by decide +kernel
theorem d9_8 : DC c9 8 (.iload_n 2) 1 := by decide +kernel
theorem d9_9 : DC c9 9 (.invokestatic 115) 3 := by decide +kernel
theorem ef9 {x0 : Addr} {x1 : Int32} {x2 : Addr} {x3 : Int32} {x4 : Int32} (m : MethodId) : entryFrame m #[(.ref x0), (.int x1), (.ref x2), (.int x3), (.int x4)] 7 = mkF m 0 #[.val (.ref x0), .val (.int x1), .val (.ref x2), .val (.int x3), .val (.int x4), .unset, .unset] [] := by simp [entryFrame, mkF, argsToLocals, Value.category, maxLocals]
abbrev y9 : MethodName := ⟨"java/lang/StringUTF16", "compress", "([CI[BII)I"⟩
theorem B10 : BI y9 "java/lang/StringUTF16" "compress" := ⟨(plainFor_of_name pn_java_lang_StringUTF16), rfl, rfl⟩
abbrev c10 := jdk_52_method_21_code
theorem d10_0 : DC c10 0 (.iconst 0) 1 := by decide +kernel
theorem d10_1 : DC c10 1 (.istore 5) 2 := by decide +kernel
theorem d10_3 : DC c10 3 (.iload 5) 2 := by decide +kernel
theorem d10_5 : DC c10 5 (.iload 4) 2 := by decide +kernel
theorem d10_7 : DC c10 7 (.if_icmp .ge 37) 3 := by decide +kernel
theorem d10_10 : DC c10 10 (.aload_n 0) 1 := by decide +kernel
theorem d10_11 : DC c10 11 (.iload_n 1) 1 := by decide +kernel
theorem d10_12 : DC c10 12 .caload 1 := by decide +kernel
theorem d10_13 : DC c10 13 (.istore 6) 2 := by decide +kernel
theorem d10_15 : DC c10 15 (.iload 6) 2 := by decide +kernel
theorem d10_17 : DC c10 17 (.sipush 255) 3 := by decide +kernel
theorem d10_20 : DC c10 20 (.if_icmp .le 6) 3 := by decide +kernel
theorem d10_26 : DC c10 26 (.aload_n 2) 1 := by decide +kernel
theorem d10_27 : DC c10 27 (.iload_n 3) 1 := by decide +kernel
theorem d10_28 : DC c10 28 (.iload 6) 2 := by decide +kernel
theorem d10_30 : DC c10 30 .i2b 1 := by decide +kernel
theorem d10_31 : DC c10 31 .bastore 1 := by decide +kernel
theorem d10_32 : DC c10 32 (.iinc 1 1) 3 := by decide +kernel
theorem d10_35 : DC c10 35 (.iinc 3 1) 3 := by decide +kernel
theorem d10_38 : DC c10 38 (.iinc 5 1) 3 := by decide +kernel
theorem d10_41 : DC c10 41 (.goto (-38)) 3 := by decide +kernel
theorem d10_44 : DC c10 44 (.iload 4) 2 := by decide +kernel
theorem d10_46 : DC c10 46 .ireturn 1 := by decide +kernel
abbrev M10 := MM y9 c10 7 (some .int)
theorem pd_4 : parseMethodDescriptor "([CI[BII)I" = some ⟨[(.array .char), .int, (.array .byte), .int, .int], (some .int)⟩ := by decide +kernel
def u4 : WS_static Z a0 "java/lang/StringUTF16" 115 y9 c10 7 (some .int) 5 := ⟨(w24 G), (w25 G), (w21 G), (w26 G), by decide +kernel, lenN pd_4 rfl⟩
theorem d9_12 : DC c9 12 (.istore 4) 2 := by decide +kernel
theorem d9_14 : DC c9 14 (.iload 4) 2 := by decide +kernel
theorem d9_16 : DC c9 16 (.iload_n 2) 1 := by decide +kernel
theorem d9_17 : DC c9 17 (.if_icmp .eq 40) 3 := by decide +kernel
theorem d9_57 : DC c9 57 (.aload_n 3) 1 := by decide +kernel
theorem d9_58 : DC c9 58 .areturn 1 := by decide +kernel
abbrev M9 := MM y8 c9 6 (some (.array .byte))
theorem pd_5 : parseMethodDescriptor "([CII)[B" = some ⟨[(.array .char), .int, .int], (some (.array .byte))⟩ := by decide +kernel
def u5 : WS_static Z a0 "java/lang/String" 177 y8 c9 6 (some (.array .byte)) 3 := ⟨(w19 G), (w20 G), (w21 G), (w22 G), by decide +kernel, lenN pd_5 rfl⟩
theorem d8_39 : DC c8 39 (.astore 5) 2 := by decide +kernel
theorem d8_41 : DC c8 41 (.aload_n 0) 1 := by decide +kernel
theorem d8_42 : DC c8 42 (.aload 5) 2 := by decide +kernel
theorem d8_44 : DC c8 44 (.iload_n 3) 1 := by decide +kernel
theorem d8_45 : DC c8 45 (.invokestatic 47) 3 := by decide +kernel
theorem ef10 {x0 : Addr} {x1 : Int32} (m : MethodId) : entryFrame m #[(.ref x0), (.int x1)] 2 = mkF m 0 #[.val (.ref x0), .val (.int x1)] [] := by simp [entryFrame, mkF, argsToLocals, Value.category, maxLocals]
abbrev y10 : MethodName := ⟨"java/lang/StringUTF16", "coderFromArrayLen", "([BI)B"⟩
theorem B11 : BI y10 "java/lang/StringUTF16" "coderFromArrayLen" := ⟨(plainFor_of_name pn_java_lang_StringUTF16), rfl, rfl⟩
abbrev c11 := jdk_52_method_15_code
theorem d11_0 : DC c11 0 (.iload_n 1) 1 := by decide +kernel
theorem d11_1 : DC c11 1 (.aload_n 0) 1 := by decide +kernel
theorem d11_2 : DC c11 2 .arraylength 1 := by decide +kernel
theorem d11_3 : DC c11 3 .isub 1 := by decide +kernel
theorem d11_4 : DC c11 4 (.bipush 31) 2 := by decide +kernel
theorem d11_6 : DC c11 6 .iushr 1 := by decide +kernel
theorem d11_7 : DC c11 7 .i2b 1 := by decide +kernel
theorem d11_8 : DC c11 8 .ireturn 1 := by decide +kernel
abbrev M11 := MM y10 c11 2 (some .byte)
theorem pd_6 : parseMethodDescriptor "([BI)B" = some ⟨[(.array .byte), .int], (some .byte)⟩ := by decide +kernel
def u6 : WS_static Z a0 "java/lang/String" 47 y10 c11 2 (some .byte) 2 := ⟨(w27 G), (w28 G), (w21 G), (w29 G), by decide +kernel, lenN pd_6 rfl⟩
theorem d8_48 : DC c8 48 (.putfield 15) 3 := by decide +kernel
theorem d8_51 : DC c8 51 (.aload_n 0) 1 := by decide +kernel
theorem d8_52 : DC c8 52 (.aload 5) 2 := by decide +kernel
theorem d8_54 : DC c8 54 (.putfield 9) 3 := by decide +kernel
def sn4 := slot_ne (Or.inr (w33 G)) (Or.inr (w31 G)) (by decide +kernel) (t := (.array .byte)) (t' := .byte) fd_2 fd_1
theorem d8_57 : DC c8 57 .return_ 1 := by decide +kernel
def sn5 := slot_ne (Or.inr (w31 G)) (Or.inr (w33 G)) (by decide +kernel) (t := .byte) (t' := (.array .byte)) fd_1 fd_2
def sn6 := slot_ne (Or.inl (w169 G)) (Or.inr (w31 G)) (by decide +kernel) (t := .int) (t' := .byte) fd_3 fd_1
def sn7 := slot_ne (Or.inl (w169 G)) (Or.inr (w33 G)) (by decide +kernel) (t := .int) (t' := (.array .byte)) fd_3 fd_2
def sn8 := slot_ne (Or.inl (w171 G)) (Or.inr (w31 G)) (by decide +kernel) (t := .boolean) (t' := .byte) fd_0 fd_1
def sn9 := slot_ne (Or.inl (w171 G)) (Or.inr (w33 G)) (by decide +kernel) (t := .boolean) (t' := (.array .byte)) fd_0 fd_2
abbrev M8 := MM y7 c8 6 none
theorem pd_7 : parseMethodDescriptor "([CIILjava/lang/Void;)V" = some ⟨[(.array .char), .int, .int, (.object "java/lang/Void")], none⟩ := by decide +kernel
def u7 : WS_special Z a0 "java/lang/String" 27 y7 c8 6 4 := ⟨(w7 G), rfl, (w11 G), (w12 G), (w14 G), by decide +kernel, lenN pd_7 rfl⟩
theorem d7_9 : DC c7 9 .return_ 1 := by decide +kernel
abbrev M7 := MM y6 c7 2 none
theorem pd_8 : parseMethodDescriptor "([C)V" = some ⟨[(.array .char)], none⟩ := by decide +kernel
def u8 : WS_special Z a0 "com/example/hedgerow/hedgerow/records/RecordWithOwnerPinLaw" 9 y6 c7 2 1 := ⟨(w7 G), rfl, (w8 G), (w9 G), (w10 G), by decide +kernel, lenN pd_8 rfl⟩
theorem d6_33 : DC c6 33 .areturn 1 := by decide +kernel
abbrev M6 := MM y5 c6 2 (some (.object "java/lang/String"))
theorem pd_9 : parseMethodDescriptor "(I)Ljava/lang/String;" = some ⟨[.int], (some (.object "java/lang/String"))⟩ := by decide +kernel
def u9 : WS_static Z a0 "com/example/hedgerow/hedgerow/records/RecordWithOwnerPinLaw" 12 y5 c6 2 (some (.object "java/lang/String")) 1 := ⟨(w0 G), (w1 G), (w2 G), (w3 G), by decide +kernel, lenN pd_9 rfl⟩
theorem fd_4 : parseFieldDescriptor "[Ljava/lang/Object;" = some (.array (.object "java/lang/Object")) := by decide +kernel
theorem pn_java_util_ArrayList : plainName "java/util/ArrayList" = true := by first | decide +kernel | (simp [plainName, overriddenIn]; done)
abbrev y11 : MethodName := ⟨"java/util/ArrayList", "<init>", "()V"⟩
theorem B12 : BI y11 "java/util/ArrayList" "<init>" := ⟨(plainFor_of_name pn_java_util_ArrayList), rfl, rfl⟩
abbrev c12 := jdk_38_method_2_code
theorem d12_0 : DC c12 0 (.aload_n 0) 1 := by decide +kernel
theorem d12_1 : DC c12 1 (.invokespecial 1) 3 := by decide +kernel
theorem pn_java_util_AbstractList : plainName "java/util/AbstractList" = true := by first | decide +kernel | (simp [plainName, overriddenIn]; done)
abbrev y12 : MethodName := ⟨"java/util/AbstractList", "<init>", "()V"⟩
theorem B13 : BI y12 "java/util/AbstractList" "<init>" := ⟨(plainFor_of_name pn_java_util_AbstractList), rfl, rfl⟩
abbrev c13 := jdk_39_method_1_code
theorem d13_0 : DC c13 0 (.aload_n 0) 1 := by decide +kernel
theorem d13_1 : DC c13 1 (.invokespecial 1) 3 := by decide +kernel
theorem pn_java_util_AbstractCollection : plainName "java/util/AbstractCollection" = true := by first | decide +kernel | (simp [plainName, overriddenIn]; done)
abbrev y13 : MethodName := ⟨"java/util/AbstractCollection", "<init>", "()V"⟩
theorem B14 : BI y13 "java/util/AbstractCollection" "<init>" := ⟨(plainFor_of_name pn_java_util_AbstractCollection), rfl, rfl⟩
abbrev c14 := jdk_22_method_1_code
theorem d14_0 : DC c14 0 (.aload_n 0) 1 := by decide +kernel
theorem d14_1 : DC c14 1 (.invokespecial 1) 3 := by decide +kernel
theorem d14_4 : DC c14 4 .return_ 1 := by decide +kernel
abbrev M14 := MM y13 c14 1 none
theorem pd_10 : parseMethodDescriptor "()V" = some ⟨[], none⟩ := by decide +kernel
def u10 : WS_special Z a0 "java/util/AbstractList" 1 y13 c14 1 0 := ⟨(w50 G), rfl, (w46 G), (w47 G), (w51 G), by decide +kernel, lenN pd_10 rfl⟩
theorem d13_4 : DC c13 4 (.aload_n 0) 1 := by decide +kernel
theorem d13_5 : DC c13 5 (.iconst 0) 1 := by decide +kernel
theorem d13_6 : DC c13 6 (.putfield 7) 3 := by decide +kernel
theorem d13_9 : DC c13 9 .return_ 1 := by decide +kernel
def sn10 := slot_ne (Or.inl (w57 G)) (Or.inl (w54 G)) (by decide +kernel) (t := (.array (.object "java/lang/Object"))) (t' := .int) fd_4 fd_3
def sn11 := slot_ne (Or.inl (w66 G)) (Or.inl (w54 G)) (by decide +kernel) (t := .int) (t' := .int) fd_3 fd_3
abbrev M13 := MM y12 c13 1 none
def u11 : WS_special Z a0 "java/util/ArrayList" 1 y12 c13 1 0 := ⟨(w44 G), rfl, (w40 G), (w41 G), (w45 G), by decide +kernel, lenN pd_10 rfl⟩
theorem d12_4 : DC c12 4 (.aload_n 0) 1 := by decide +kernel
theorem d12_5 : DC c12 5 (.getstatic 39) 3 := by decide +kernel
theorem d12_8 : DC c12 8 (.putfield 9) 3 := by decide +kernel
theorem d12_11 : DC c12 11 .return_ 1 := by decide +kernel
def sn12 := slot_ne (Or.inl (w54 G)) (Or.inl (w57 G)) (by decide +kernel) (t := .int) (t' := (.array (.object "java/lang/Object"))) fd_3 fd_4
def sn13 := slot_ne (Or.inl (w66 G)) (Or.inl (w57 G)) (by decide +kernel) (t := .int) (t' := (.array (.object "java/lang/Object"))) fd_3 fd_4
abbrev M12 := MM y11 c12 1 none
def u12 : WS_special Z a0 "com/example/hedgerow/hedgerow/records/RecordWithOwnerPinLaw" 20 y11 c12 1 0 := ⟨(w36 G), rfl, (w37 G), (w38 G), (w39 G), by decide +kernel, lenN pd_10 rfl⟩
abbrev y14 : MethodName := ⟨"java/util/ArrayList", "add", "(Ljava/lang/Object;)Z"⟩
theorem B15 : BI y14 "java/util/ArrayList" "add" := ⟨(plainFor_of_name pn_java_util_ArrayList), rfl, rfl⟩
abbrev c15 := jdk_38_method_25_code
theorem d15_0 : DC c15 0 (.aload_n 0) 1 := by decide +kernel
theorem d15_1 : DC c15 1 .dup 1 := by decide +kernel
theorem d15_2 : DC c15 2 (.getfield 63) 3 := by decide +kernel
theorem d15_5 : DC c15 5 (.iconst 1) 1 := by decide +kernel
theorem d15_6 : DC c15 6 .iadd 1 := by decide +kernel
theorem d15_7 : DC c15 7 (.putfield 63) 3 := by decide +kernel
theorem d15_10 : DC c15 10 (.aload_n 0) 1 := by decide +kernel
theorem d15_11 : DC c15 11 (.aload_n 1) 1 := by decide +kernel
theorem d15_12 : DC c15 12 (.aload_n 0) 1 := by decide +kernel
theorem d15_13 : DC c15 13 (.getfield 9) 3 := by decide +kernel
theorem d15_16 : DC c15 16 (.aload_n 0) 1 := by decide +kernel
theorem d15_17 : DC c15 17 (.getfield 48) 3 := by decide +kernel
theorem d15_20 : DC c15 20 (.invokevirtual 131) 3 := by decide +kernel
theorem ef11 {x0 : Addr} {x1 : Addr} {x2 : Addr} {x3 : Int32} (m : MethodId) : entryFrame m #[(.ref x0), (.ref x1), (.ref x2), (.int x3)] 4 = mkF m 0 #[.val (.ref x0), .val (.ref x1), .val (.ref x2), .val (.int x3)] [] := by simp [entryFrame, mkF, argsToLocals, Value.category, maxLocals]
abbrev y15 : MethodName := ⟨"java/util/ArrayList", "add", "(Ljava/lang/Object;[Ljava/lang/Object;I)V"⟩
theorem B16 : BI y15 "java/util/ArrayList" "add" := ⟨(plainFor_of_name pn_java_util_ArrayList), rfl, rfl⟩
abbrev c16 := jdk_38_method_24_code
theorem d16_0 : DC c16 0 (.iload_n 3) 1 := by decide +kernel
theorem d16_1 : DC c16 1 (.aload_n 2) 1 := by decide +kernel
theorem d16_2 : DC c16 2 .arraylength 1 := by decide +kernel
theorem d16_3 : DC c16 3 (.if_icmp .ne 8) 3 := by decide +kernel
theorem d16_6 : DC c16 6 (.aload_n 0) 1 := by decide +kernel
theorem d16_7 : DC c16 7 (.invokevirtual 129) 3 := by decide +kernel
abbrev y16 : MethodName := ⟨"java/util/ArrayList", "grow", "()[Ljava/lang/Object;"⟩
theorem B17 : BI y16 "java/util/ArrayList" "grow" := ⟨(plainFor_of_name pn_java_util_ArrayList), rfl, rfl⟩
abbrev c17 := jdk_38_method_7_code
theorem d17_0 : DC c17 0 (.aload_n 0) 1 := by decide +kernel
theorem d17_1 : DC c17 1 (.aload_n 0) 1 := by decide +kernel
theorem d17_2 : DC c17 2 (.getfield 48) 3 := by decide +kernel
theorem d17_5 : DC c17 5 (.iconst 1) 1 := by decide +kernel
theorem d17_6 : DC c17 6 .iadd 1 := by decide +kernel
theorem d17_7 : DC c17 7 (.invokevirtual 69) 3 := by decide +kernel
theorem ef12 {x0 : Addr} {x1 : Int32} (m : MethodId) : entryFrame m #[(.ref x0), (.int x1)] 4 = mkF m 0 #[.val (.ref x0), .val (.int x1), .unset, .unset] [] := by simp [entryFrame, mkF, argsToLocals, Value.category, maxLocals]
abbrev y17 : MethodName := ⟨"java/util/ArrayList", "grow", "(I)[Ljava/lang/Object;"⟩
theorem B18 : BI y17 "java/util/ArrayList" "grow" := ⟨(plainFor_of_name pn_java_util_ArrayList), rfl, rfl⟩
abbrev c18 := jdk_38_method_6_code
theorem d18_0 : DC c18 0 (.aload_n 0) 1 := by decide +kernel
theorem d18_1 : DC c18 1 (.getfield 9) 3 := by decide +kernel
theorem d18_4 : DC c18 4 .arraylength 1 := by decide +kernel
theorem d18_5 : DC c18 5 (.istore_n 2) 1 := by decide +kernel
theorem d18_6 : DC c18 6 (.iload_n 2) 1 := by decide +kernel
theorem d18_7 : DC c18 7 (.ifCond .gt 13) 3 := by decide +kernel
theorem d18_10 : DC c18 10 (.aload_n 0) 1 := by decide +kernel
theorem d18_11 : DC c18 11 (.getfield 9) 3 := by decide +kernel
theorem d18_14 : DC c18 14 (.getstatic 39) 3 := by decide +kernel
theorem d18_17 : DC c18 17 (.if_acmp .eq 28) 3 := by decide +kernel
theorem d18_45 : DC c18 45 (.aload_n 0) 1 := by decide +kernel
theorem d18_46 : DC c18 46 (.bipush 10) 2 := by decide +kernel
theorem d18_48 : DC c18 48 (.iload_n 1) 1 := by decide +kernel
theorem d18_49 : DC c18 49 (.invokestatic 79) 3 := by decide +kernel
theorem ef13 {x0 : Int32} {x1 : Int32} (m : MethodId) : entryFrame m #[(.int x0), (.int x1)] 2 = mkF m 0 #[.val (.int x0), .val (.int x1)] [] := by simp [entryFrame, mkF, argsToLocals, Value.category, maxLocals]
theorem pf_19 : plainFor ⟨"java/lang/Math", "max", "(II)I"⟩ = true := by decide +kernel
abbrev y18 : MethodName := ⟨"java/lang/Math", "max", "(II)I"⟩
theorem B19 : BI y18 "java/lang/Math" "max" := ⟨pf_19, rfl, rfl⟩
abbrev c19 := jdk_29_method_65_code
theorem d19_0 : DC c19 0 (.iload_n 0) 1 := by decide +kernel
theorem d19_1 : DC c19 1 (.iload_n 1) 1 := by decide +kernel
theorem d19_2 : DC c19 2 (.if_icmp .lt 7) 3 := by decide +kernel
theorem d19_5 : DC c19 5 (.iload_n 0) 1 := by decide +kernel
theorem d19_6 : DC c19 6 (.goto 4) 3 := by decide +kernel
theorem d19_10 : DC c19 10 .ireturn 1 := by decide +kernel
abbrev M19 := MM y18 c19 2 (some .int)
theorem pd_11 : parseMethodDescriptor "(II)I" = some ⟨[.int, .int], (some .int)⟩ := by decide +kernel
def u13 : WS_static Z a0 "java/util/ArrayList" 79 y18 c19 2 (some .int) 2 := ⟨(w82 G), (w83 G), (w84 G), (w85 G), by decide +kernel, lenN pd_11 rfl⟩
theorem d18_52 : DC c18 52 (.anewarray 7) 3 := by decide +kernel
theorem d18_55 : DC c18 55 .dup_x1 1 := by decide +kernel
theorem d18_56 : DC c18 56 (.putfield 9) 3 := by decide +kernel
theorem d18_59 : DC c18 59 .areturn 1 := by decide +kernel
abbrev M18 := MM y17 c18 4 (some (.array (.object "java/lang/Object")))
theorem pd_12 : parseMethodDescriptor "(I)[Ljava/lang/Object;" = some ⟨[.int], (some (.array (.object "java/lang/Object")))⟩ := by decide +kernel
def u14 : WS_virtual Z a0 "java/util/ArrayList" 69 "java/util/ArrayList" y17 y17 c18 4 (some (.array (.object "java/lang/Object"))) 1 := ⟨(w81 G), (w36 G), (w77 G), (own_decl (w78 G) (w81 G)), (w80 G), (w78 G), (nf_sel (w80 G)), by decide +kernel, lenN pd_12 rfl⟩
theorem d17_10 : DC c17 10 .areturn 1 := by decide +kernel
abbrev M17 := MM y16 c17 1 (some (.array (.object "java/lang/Object")))
theorem pd_13 : parseMethodDescriptor "()[Ljava/lang/Object;" = some ⟨[], (some (.array (.object "java/lang/Object")))⟩ := by decide +kernel
def u15 : WS_virtual Z a0 "java/util/ArrayList" 129 "java/util/ArrayList" y16 y16 c17 1 (some (.array (.object "java/lang/Object"))) 0 := ⟨(w76 G), (w36 G), (w72 G), (own_decl (w73 G) (w76 G)), (w75 G), (w73 G), (nf_sel (w75 G)), by decide +kernel, lenN pd_13 rfl⟩
theorem d16_10 : DC c16 10 (.astore_n 2) 1 := by decide +kernel
theorem d16_11 : DC c16 11 (.aload_n 2) 1 := by decide +kernel
theorem d16_12 : DC c16 12 (.iload_n 3) 1 := by decide +kernel
theorem d16_13 : DC c16 13 (.aload_n 1) 1 := by decide +kernel
theorem d16_14 : DC c16 14 .aastore 1 := by decide +kernel
theorem d16_15 : DC c16 15 (.aload_n 0) 1 := by decide +kernel
theorem d16_16 : DC c16 16 (.iload_n 3) 1 := by decide +kernel
theorem d16_17 : DC c16 17 (.iconst 1) 1 := by decide +kernel
theorem d16_18 : DC c16 18 .iadd 1 := by decide +kernel
theorem d16_19 : DC c16 19 (.putfield 48) 3 := by decide +kernel
theorem d16_22 : DC c16 22 .return_ 1 := by decide +kernel
def sn14 := slot_ne (Or.inl (w57 G)) (Or.inl (w66 G)) (by decide +kernel) (t := (.array (.object "java/lang/Object"))) (t' := .int) fd_4 fd_3
def sn15 := slot_ne (Or.inl (w54 G)) (Or.inl (w66 G)) (by decide +kernel) (t := .int) (t' := .int) fd_3 fd_3
abbrev M16 := MM y15 c16 4 none
theorem pd_14 : parseMethodDescriptor "(Ljava/lang/Object;[Ljava/lang/Object;I)V" = some ⟨[(.object "java/lang/Object"), (.array (.object "java/lang/Object")), .int], none⟩ := by decide +kernel
def u16 : WS_virtual Z a0 "java/util/ArrayList" 131 "java/util/ArrayList" y15 y15 c16 4 none 3 := ⟨(w71 G), (w36 G), (w67 G), (own_decl (w68 G) (w71 G)), (w70 G), (w68 G), (nf_sel (w70 G)), by decide +kernel, lenN pd_14 rfl⟩
theorem d15_23 : DC c15 23 (.iconst 1) 1 := by decide +kernel
theorem d15_24 : DC c15 24 .ireturn 1 := by decide +kernel
abbrev M15 := MM y14 c15 2 (some .boolean)
theorem pd_15 : parseMethodDescriptor "(Ljava/lang/Object;)Z" = some ⟨[(.object "java/lang/Object")], (some .boolean)⟩ := by decide +kernel
def u17 : WS_virtual Z a0 "com/example/hedgerow/hedgerow/records/RecordWithOwnerPinLaw" 21 "java/util/ArrayList" y14 y14 c15 2 (some .boolean) 1 := ⟨(w62 G), (w36 G), (w58 G), (w59 G), (w61 G), (w60 G), (nf_sel (w61 G)), by decide +kernel, lenN pd_15 rfl⟩
theorem ef14 {x0 : Addr} {x1 : Addr} {x2 : Addr} {x3 : Addr} {x4 : Addr} (m : MethodId) : entryFrame m #[(.ref x0), (.ref x1), (.ref x2), (.ref x3), (.ref x4)] 7 = mkF m 0 #[.val (.ref x0), .val (.ref x1), .val (.ref x2), .val (.ref x3), .val (.ref x4), .unset, .unset] [] := by simp [entryFrame, mkF, argsToLocals, Value.category, maxLocals]
theorem pn_com_example_hedgerow_hedgerow_records_Record : plainName "com/example/hedgerow/hedgerow/records/Record" = true := by first | decide +kernel | (simp [plainName, overriddenIn]; done)
abbrev y19 : MethodName := ⟨"com/example/hedgerow/hedgerow/records/Record", "of", "(Ljava/lang/String;Ljava/lang/String;Ljava/lang/String;Ljava/util/List;Ljava/util/List;)Lcom/example/hedgerow/hedgerow/records/Record;"⟩
theorem B20 : BI y19 "com/example/hedgerow/hedgerow/records/Record" "of" := ⟨(plainFor_of_name pn_com_example_hedgerow_hedgerow_records_Record), rfl, rfl⟩
abbrev c20 := prog_9_method_2_code
theorem d20_0 : DC c20 0 (.new 23) 3 := by decide +kernel
theorem fd_5 : parseFieldDescriptor "F" = some .float := by decide +kernel
theorem fd_6 : parseFieldDescriptor "[Ljava/util/HashMap$Node;" = some (.array (.object "java/util/HashMap$Node")) := by decide +kernel
theorem fd_7 : parseFieldDescriptor "Ljava/util/LinkedHashMap$Entry;" = some (.object "java/util/LinkedHashMap$Entry") := by decide +kernel
theorem d20_3 : DC c20 3 .dup 1 := by decide +kernel
theorem d20_4 : DC c20 4 (.invokespecial 25) 3 := by decide +kernel
theorem pn_java_util_LinkedHashMap : plainName "java/util/LinkedHashMap" = true := by first | decide +kernel | (simp [plainName, overriddenIn]; done)
abbrev y20 : MethodName := ⟨"java/util/LinkedHashMap", "<init>", "()V"⟩
theorem B21 : BI y20 "java/util/LinkedHashMap" "<init>" := ⟨(plainFor_of_name pn_java_util_LinkedHashMap), rfl, rfl⟩
abbrev c21 := jdk_94_method_16_code
theorem d21_0 : DC c21 0 (.aload_n 0) 1 := by decide +kernel
theorem d21_1 : DC c21 1 (.invokespecial 87) 3 := by decide +kernel
theorem pn_java_util_HashMap : plainName "java/util/HashMap" = true := by first | decide +kernel | (simp [plainName, overriddenIn]; done)
abbrev y21 : MethodName := ⟨"java/util/HashMap", "<init>", "()V"⟩
theorem B22 : BI y21 "java/util/HashMap" "<init>" := ⟨(plainFor_of_name pn_java_util_HashMap), rfl, rfl⟩
abbrev c22 := jdk_69_method_7_code
theorem d22_0 : DC c22 0 (.aload_n 0) 1 := by decide +kernel
theorem d22_1 : DC c22 1 (.invokespecial 43) 3 := by decide +kernel
theorem pn_java_util_AbstractMap : plainName "java/util/AbstractMap" = true := by first | decide +kernel | (simp [plainName, overriddenIn]; done)
abbrev y22 : MethodName := ⟨"java/util/AbstractMap", "<init>", "()V"⟩
theorem B23 : BI y22 "java/util/AbstractMap" "<init>" := ⟨(plainFor_of_name pn_java_util_AbstractMap), rfl, rfl⟩
abbrev c23 := jdk_71_method_1_code
theorem d23_0 : DC c23 0 (.aload_n 0) 1 := by decide +kernel
theorem d23_1 : DC c23 1 (.invokespecial 1) 3 := by decide +kernel
theorem d23_4 : DC c23 4 .return_ 1 := by decide +kernel
abbrev M23 := MM y22 c23 1 none
def u18 : WS_special Z a0 "java/util/HashMap" 43 y22 c23 1 0 := ⟨(w109 G), rfl, (w105 G), (w106 G), (w110 G), by decide +kernel, lenN pd_10 rfl⟩
theorem d22_4 : DC c22 4 (.aload_n 0) 1 := by decide +kernel
theorem d22_5 : DC c22 5 (.ldc 92) 2 := by decide +kernel
theorem d22_7 : DC c22 7 (.putfield 81) 3 := by decide +kernel
theorem d22_10 : DC c22 10 .return_ 1 := by decide +kernel
def sn16 := slot_ne (Or.inr (w118 G)) (Or.inr (w114 G)) (by decide +kernel) (t := .boolean) (t' := .float) fd_0 fd_5
def sn17 := slot_ne (Or.inl (w242 G)) (Or.inr (w114 G)) (by decide +kernel) (t := (.object "java/util/LinkedHashMap$Entry")) (t' := .float) fd_7 fd_5
def sn18 := slot_ne (Or.inl (w244 G)) (Or.inr (w114 G)) (by decide +kernel) (t := .int) (t' := .float) fd_3 fd_5
def sn19 := slot_ne (Or.inl (w116 G)) (Or.inr (w114 G)) (by decide +kernel) (t := .int) (t' := .float) fd_3 fd_5
def sn20 := slot_ne (Or.inl (w246 G)) (Or.inr (w114 G)) (by decide +kernel) (t := .int) (t' := .float) fd_3 fd_5
def sn21 := slot_ne (Or.inl (w196 G)) (Or.inr (w114 G)) (by decide +kernel) (t := (.array (.object "java/util/HashMap$Node"))) (t' := .float) fd_6 fd_5
def sn22 := slot_ne (Or.inl (w240 G)) (Or.inr (w114 G)) (by decide +kernel) (t := (.object "java/util/LinkedHashMap$Entry")) (t' := .float) fd_7 fd_5
def sn23 := slot_ne (Or.inl (w203 G)) (Or.inr (w114 G)) (by decide +kernel) (t := .int) (t' := .float) fd_3 fd_5
abbrev M22 := MM y21 c22 1 none
def u19 : WS_special Z a0 "java/util/LinkedHashMap" 87 y21 c22 1 0 := ⟨(w103 G), rfl, (w99 G), (w100 G), (w104 G), by decide +kernel, lenN pd_10 rfl⟩
theorem d21_4 : DC c21 4 (.aload_n 0) 1 := by decide +kernel
theorem d21_5 : DC c21 5 (.iconst 0) 1 := by decide +kernel
theorem d21_6 : DC c21 6 (.putfield 1) 3 := by decide +kernel
theorem d21_9 : DC c21 9 (.aload_n 0) 1 := by decide +kernel
theorem d21_10 : DC c21 10 (.iconst 0) 1 := by decide +kernel
theorem d21_11 : DC c21 11 (.putfield 64) 3 := by decide +kernel
def sn24 := slot_ne (Or.inr (w118 G)) (Or.inl (w116 G)) (by decide +kernel) (t := .boolean) (t' := .int) fd_0 fd_3
theorem d21_14 : DC c21 14 .return_ 1 := by decide +kernel
def sn25 := slot_ne (Or.inl (w242 G)) (Or.inl (w116 G)) (by decide +kernel) (t := (.object "java/util/LinkedHashMap$Entry")) (t' := .int) fd_7 fd_3
def sn26 := slot_ne (Or.inl (w242 G)) (Or.inr (w118 G)) (by decide +kernel) (t := (.object "java/util/LinkedHashMap$Entry")) (t' := .boolean) fd_7 fd_0
def sn27 := slot_ne (Or.inr (w114 G)) (Or.inl (w116 G)) (by decide +kernel) (t := .float) (t' := .int) fd_5 fd_3
def sn28 := slot_ne (Or.inr (w114 G)) (Or.inr (w118 G)) (by decide +kernel) (t := .float) (t' := .boolean) fd_5 fd_0
def sn29 := slot_ne (Or.inl (w244 G)) (Or.inl (w116 G)) (by decide +kernel) (t := .int) (t' := .int) fd_3 fd_3
def sn30 := slot_ne (Or.inl (w244 G)) (Or.inr (w118 G)) (by decide +kernel) (t := .int) (t' := .boolean) fd_3 fd_0
def sn31 := slot_ne (Or.inl (w116 G)) (Or.inr (w118 G)) (by decide +kernel) (t := .int) (t' := .boolean) fd_3 fd_0
def sn32 := slot_ne (Or.inl (w246 G)) (Or.inl (w116 G)) (by decide +kernel) (t := .int) (t' := .int) fd_3 fd_3
def sn33 := slot_ne (Or.inl (w246 G)) (Or.inr (w118 G)) (by decide +kernel) (t := .int) (t' := .boolean) fd_3 fd_0
def sn34 := slot_ne (Or.inl (w196 G)) (Or.inl (w116 G)) (by decide +kernel) (t := (.array (.object "java/util/HashMap$Node"))) (t' := .int) fd_6 fd_3
def sn35 := slot_ne (Or.inl (w196 G)) (Or.inr (w118 G)) (by decide +kernel) (t := (.array (.object "java/util/HashMap$Node"))) (t' := .boolean) fd_6 fd_0
def sn36 := slot_ne (Or.inl (w240 G)) (Or.inl (w116 G)) (by decide +kernel) (t := (.object "java/util/LinkedHashMap$Entry")) (t' := .int) fd_7 fd_3
def sn37 := slot_ne (Or.inl (w240 G)) (Or.inr (w118 G)) (by decide +kernel) (t := (.object "java/util/LinkedHashMap$Entry")) (t' := .boolean) fd_7 fd_0
def sn38 := slot_ne (Or.inl (w203 G)) (Or.inl (w116 G)) (by decide +kernel) (t := .int) (t' := .int) fd_3 fd_3
def sn39 := slot_ne (Or.inl (w203 G)) (Or.inr (w118 G)) (by decide +kernel) (t := .int) (t' := .boolean) fd_3 fd_0
abbrev M21 := MM y20 c21 1 none
def u20 : WS_special Z a0 "com/example/hedgerow/hedgerow/records/Record" 25 y20 c21 1 0 := ⟨(w95 G), rfl, (w96 G), (w97 G), (w98 G), by decide +kernel, lenN pd_10 rfl⟩
theorem d20_7 : DC c20 7 (.astore 5) 2 := by decide +kernel
theorem d20_9 : DC c20 9 (.iconst 0) 1 := by decide +kernel
theorem d20_10 : DC c20 10 (.istore 6) 2 := by decide +kernel
theorem d20_12 : DC c20 12 (.iload 6) 2 := by decide +kernel
theorem d20_14 : DC c20 14 (.aload_n 3) 1 := by decide +kernel
theorem d20_15 : DC c20 15 (.invokeinterface 26 1) 5 := by decide +kernel
abbrev y23 : MethodName := ⟨"java/util/ArrayList", "size", "()I"⟩
theorem B24 : BI y23 "java/util/ArrayList" "size" := ⟨(plainFor_of_name pn_java_util_ArrayList), rfl, rfl⟩
abbrev c24 := jdk_38_method_8_code
theorem d24_0 : DC c24 0 (.aload_n 0) 1 := by decide +kernel
theorem d24_1 : DC c24 1 (.getfield 48) 3 := by decide +kernel
theorem d24_4 : DC c24 4 .ireturn 1 := by decide +kernel
abbrev M24 := MM y23 c24 1 (some .int)
theorem pd_16 : parseMethodDescriptor "()I" = some ⟨[], (some .int)⟩ := by decide +kernel
abbrev y24 : MethodName := ⟨"java/util/List", "size", "()I"⟩
def u21 : WS_iface Z a0 "com/example/hedgerow/hedgerow/records/Record" 26 "java/util/ArrayList" y24 y23 c24 1 (some .int) 0 := ⟨(w127 G), (w36 G), (w119 G), (w120 G), (w121 G), (w122 G), (w123 G), (w124 G), (w125 G), (w126 G), by first | rfl | simp [Cond.onTables, Cond.keepsFace, Cond.keeps, Cond.steady], by decide +kernel, lenN pd_16 rfl⟩
theorem d20_20 : DC c20 20 (.if_icmp .ge 40) 3 := by decide +kernel
theorem d20_23 : DC c20 23 (.aload 5) 2 := by decide +kernel
theorem d20_25 : DC c20 25 (.aload_n 3) 1 := by decide +kernel
theorem d20_26 : DC c20 26 (.iload 6) 2 := by decide +kernel
theorem d20_28 : DC c20 28 (.invokeinterface 32 2) 5 := by decide +kernel
abbrev y25 : MethodName := ⟨"java/util/ArrayList", "get", "(I)Ljava/lang/Object;"⟩
theorem B25 : BI y25 "java/util/ArrayList" "get" := ⟨(plainFor_of_name pn_java_util_ArrayList), rfl, rfl⟩
abbrev c25 := jdk_38_method_20_code
theorem d25_0 : DC c25 0 (.iload_n 1) 1 := by decide +kernel
theorem d25_1 : DC c25 1 (.aload_n 0) 1 := by decide +kernel
theorem d25_2 : DC c25 2 (.getfield 48) 3 := by decide +kernel
theorem d25_5 : DC c25 5 (.invokestatic 118) 3 := by decide +kernel
theorem pn_java_util_Objects : plainName "java/util/Objects" = true := by first | decide +kernel | (simp [plainName, overriddenIn]; done)
abbrev y26 : MethodName := ⟨"java/util/Objects", "checkIndex", "(II)I"⟩
theorem B26 : BI y26 "java/util/Objects" "checkIndex" := ⟨(plainFor_of_name pn_java_util_Objects), rfl, rfl⟩
abbrev c26 := jdk_31_method_17_code
theorem d26_0 : DC c26 0 (.iload_n 0) 1 := by decide +kernel
theorem d26_1 : DC c26 1 (.iload_n 1) 1 := by decide +kernel
theorem d26_2 : DC c26 2 .aconst_null 1 := by decide +kernel
theorem d26_3 : DC c26 3 (.invokestatic 105) 3 := by decide +kernel
theorem ef15 {x0 : Int32} {x1 : Int32} (m : MethodId) : entryFrame m #[(.int x0), (.int x1), .null] 3 = mkF m 0 #[.val (.int x0), .val (.int x1), .val .null] [] := by simp [entryFrame, mkF, argsToLocals, Value.category, maxLocals]
theorem pn_jdk_internal_util_Preconditions : plainName "jdk/internal/util/Preconditions" = true := by first | decide +kernel | (simp [plainName, overriddenIn]; done)
abbrev y27 : MethodName := ⟨"jdk/internal/util/Preconditions", "checkIndex", "(IILjava/util/function/BiFunction;)I"⟩
theorem B27 : BI y27 "jdk/internal/util/Preconditions" "checkIndex" := ⟨(plainFor_of_name pn_jdk_internal_util_Preconditions), rfl, rfl⟩
abbrev c27 := jdk_41_method_11_code
theorem d27_0 : DC c27 0 (.iload_n 0) 1 := by decide +kernel
theorem d27_1 : DC c27 1 (.ifCond .lt 8) 3 := by decide +kernel
theorem d27_4 : DC c27 4 (.iload_n 0) 1 := by decide +kernel
theorem d27_5 : DC c27 5 (.iload_n 1) 1 := by decide +kernel
theorem d27_6 : DC c27 6 (.if_icmp .lt 10) 3 := by decide +kernel
theorem d27_16 : DC c27 16 (.iload_n 0) 1 := by decide +kernel
theorem d27_17 : DC c27 17 .ireturn 1 := by decide +kernel
abbrev M27 := MM y27 c27 3 (some .int)
theorem pd_17 : parseMethodDescriptor "(IILjava/util/function/BiFunction;)I" = some ⟨[.int, .int, (.object "java/util/function/BiFunction")], (some .int)⟩ := by decide +kernel
def u22 : WS_static Z a0 "java/util/Objects" 105 y27 c27 3 (some .int) 3 := ⟨(w140 G), (w141 G), (w142 G), (w143 G), by decide +kernel, lenN pd_17 rfl⟩
theorem d26_6 : DC c26 6 .ireturn 1 := by decide +kernel
abbrev M26 := MM y26 c26 2 (some .int)
def u23 : WS_static Z a0 "java/util/ArrayList" 118 y26 c26 2 (some .int) 2 := ⟨(w136 G), (w137 G), (w138 G), (w139 G), by decide +kernel, lenN pd_11 rfl⟩
theorem d25_8 : DC c25 8 .pop 1 := by decide +kernel
theorem d25_9 : DC c25 9 (.aload_n 0) 1 := by decide +kernel
theorem d25_10 : DC c25 10 (.iload_n 1) 1 := by decide +kernel
theorem d25_11 : DC c25 11 (.invokevirtual 123) 3 := by decide +kernel
abbrev y28 : MethodName := ⟨"java/util/ArrayList", "elementData", "(I)Ljava/lang/Object;"⟩
theorem B28 : BI y28 "java/util/ArrayList" "elementData" := ⟨(plainFor_of_name pn_java_util_ArrayList), rfl, rfl⟩
abbrev c28 := jdk_38_method_18_code
theorem d28_0 : DC c28 0 (.aload_n 0) 1 := by decide +kernel
theorem d28_1 : DC c28 1 (.getfield 9) 3 := by decide +kernel
theorem d28_4 : DC c28 4 (.iload_n 1) 1 := by decide +kernel
theorem d28_5 : DC c28 5 .aaload 1 := by decide +kernel
theorem d28_6 : DC c28 6 .areturn 1 := by decide +kernel
abbrev M28 := MM y28 c28 2 (some (.object "java/lang/Object"))
theorem pd_18 : parseMethodDescriptor "(I)Ljava/lang/Object;" = some ⟨[.int], (some (.object "java/lang/Object"))⟩ := by decide +kernel
def u24 : WS_virtual Z a0 "java/util/ArrayList" 123 "java/util/ArrayList" y28 y28 c28 2 (some (.object "java/lang/Object")) 1 := ⟨(w148 G), (w36 G), (w144 G), (w145 G), (w147 G), (w146 G), (nf_sel (w147 G)), by decide +kernel, lenN pd_18 rfl⟩
theorem d25_14 : DC c25 14 .areturn 1 := by decide +kernel
abbrev M25 := MM y25 c25 2 (some (.object "java/lang/Object"))
abbrev y29 : MethodName := ⟨"java/util/List", "get", "(I)Ljava/lang/Object;"⟩
def u25 : WS_iface Z a0 "com/example/hedgerow/hedgerow/records/Record" 32 "java/util/ArrayList" y29 y25 c25 2 (some (.object "java/lang/Object")) 1 := ⟨(w135 G), (w36 G), (w128 G), (w129 G), (w130 G), (w131 G), (w132 G), (w133 G), (w134 G), (w126 G), by first | rfl | simp [Cond.onTables, Cond.keepsFace, Cond.keeps, Cond.steady], by decide +kernel, lenN pd_18 rfl⟩
theorem d20_33 : DC c20 33 (.checkcast 36) 3 := by decide +kernel
theorem d20_36 : DC c20 36 (.aload 4) 2 := by decide +kernel
theorem d20_38 : DC c20 38 (.iload 6) 2 := by decide +kernel
theorem d20_40 : DC c20 40 (.invokeinterface 32 2) 5 := by decide +kernel
theorem d20_45 : DC c20 45 (.checkcast 36) 3 := by decide +kernel
theorem d20_48 : DC c20 48 (.invokeinterface 38 3) 5 := by decide +kernel
theorem ef16 {x0 : Addr} {x1 : Addr} {x2 : Addr} (m : MethodId) : entryFrame m #[(.ref x0), (.ref x1), (.ref x2)] 3 = mkF m 0 #[.val (.ref x0), .val (.ref x1), .val (.ref x2)] [] := by simp [entryFrame, mkF, argsToLocals, Value.category, maxLocals]
abbrev y30 : MethodName := ⟨"java/util/HashMap", "put", "(Ljava/lang/Object;Ljava/lang/Object;)Ljava/lang/Object;"⟩
theorem B29 : BI y30 "java/util/HashMap" "put" := ⟨(plainFor_of_name pn_java_util_HashMap), rfl, rfl⟩
abbrev c29 := jdk_69_method_15_code
theorem d29_0 : DC c29 0 (.aload_n 0) 1 := by decide +kernel
theorem d29_1 : DC c29 1 (.aload_n 1) 1 := by decide +kernel
theorem d29_2 : DC c29 2 (.invokestatic 149) 3 := by decide +kernel
abbrev y31 : MethodName := ⟨"java/util/HashMap", "hash", "(Ljava/lang/Object;)I"⟩
theorem B30 : BI y31 "java/util/HashMap" "hash" := ⟨(plainFor_of_name pn_java_util_HashMap), rfl, rfl⟩
abbrev c30 := jdk_69_method_1_code
theorem d30_0 : DC c30 0 (.aload_n 0) 1 := by decide +kernel
theorem d30_1 : DC c30 1 (.ifnonnull 7) 3 := by decide +kernel
theorem d30_8 : DC c30 8 (.aload_n 0) 1 := by decide +kernel
theorem d30_9 : DC c30 9 (.invokevirtual 1) 3 := by decide +kernel
abbrev y32 : MethodName := ⟨"java/lang/Object", "hashCode", "()I"⟩
def u26 : WS_virtual Z a0 "java/util/HashMap" 1 "java/lang/String" y32 y0 c0 2 (some .int) 0 := ⟨(w167 G), (w7 G), (w162 G), (w163 G), (w165 G), (w166 G), (own_nfZ (w267 G) rfl), by decide +kernel, lenN pd_16 rfl⟩
theorem d30_12 : DC c30 12 .dup 1 := by decide +kernel
theorem d30_13 : DC c30 13 (.istore_n 1) 1 := by decide +kernel
theorem d30_14 : DC c30 14 (.iload_n 1) 1 := by decide +kernel
theorem d30_15 : DC c30 15 (.bipush 16) 2 := by decide +kernel
theorem d30_17 : DC c30 17 .iushr 1 := by decide +kernel
theorem d30_18 : DC c30 18 .ixor 1 := by decide +kernel
theorem d30_19 : DC c30 19 .ireturn 1 := by decide +kernel
abbrev M30 := MM y31 c30 2 (some .int)
theorem pd_19 : parseMethodDescriptor "(Ljava/lang/Object;)I" = some ⟨[(.object "java/lang/Object")], (some .int)⟩ := by decide +kernel
def u27 : WS_static Z a0 "java/util/HashMap" 149 y31 c30 2 (some .int) 1 := ⟨(w159 G), (w160 G), (w103 G), (w161 G), by decide +kernel, lenN pd_19 rfl⟩
theorem d29_5 : DC c29 5 (.aload_n 1) 1 := by decide +kernel
theorem d29_6 : DC c29 6 (.aload_n 2) 1 := by decide +kernel
theorem d29_7 : DC c29 7 (.iconst 0) 1 := by decide +kernel
theorem d29_8 : DC c29 8 (.iconst 1) 1 := by decide +kernel
theorem d29_9 : DC c29 9 (.invokevirtual 152) 3 := by decide +kernel
theorem ef17 {x0 : Addr} {x1 : Int32} {x2 : Addr} {x3 : Addr} {x4 : Int32} {x5 : Int32} (m : MethodId) : entryFrame m #[(.ref x0), (.int x1), (.ref x2), (.ref x3), (.int x4), (.int x5)] 13 = mkF m 0 #[.val (.ref x0), .val (.int x1), .val (.ref x2), .val (.ref x3), .val (.int x4), .val (.int x5), .unset, .unset, .unset, .unset, .unset, .unset, .unset] [] := by simp [entryFrame, mkF, argsToLocals, Value.category, maxLocals]
abbrev y33 : MethodName := ⟨"java/util/HashMap", "putVal", "(ILjava/lang/Object;Ljava/lang/Object;ZZ)Ljava/lang/Object;"⟩
theorem B31 : BI y33 "java/util/HashMap" "putVal" := ⟨(plainFor_of_name pn_java_util_HashMap), rfl, rfl⟩
abbrev c31 := jdk_69_method_16_code
theorem d31_0 : DC c31 0 (.aload_n 0) 1 := by decide +kernel
theorem d31_1 : DC c31 1 (.getfield 105) 3 := by decide +kernel
theorem d31_4 : DC c31 4 .dup 1 := by decide +kernel
theorem d31_5 : DC c31 5 (.astore 6) 2 := by decide +kernel
theorem d31_7 : DC c31 7 (.ifnull 12) 3 := by decide +kernel
theorem d31_19 : DC c31 19 (.aload_n 0) 1 := by decide +kernel
theorem d31_20 : DC c31 20 (.invokevirtual 117) 3 := by decide +kernel
theorem ef18 {x0 : Addr} (m : MethodId) : entryFrame m #[(.ref x0)] 14 = mkF m 0 #[.val (.ref x0), .unset, .unset, .unset, .unset, .unset, .unset, .unset, .unset, .unset, .unset, .unset, .unset, .unset] [] := by simp [entryFrame, mkF, argsToLocals, Value.category, maxLocals]
abbrev y34 : MethodName := ⟨"java/util/HashMap", "resize", "()[Ljava/util/HashMap$Node;"⟩
theorem B32 : BI y34 "java/util/HashMap" "resize" := ⟨(plainFor_of_name pn_java_util_HashMap), rfl, rfl⟩
abbrev c32 := jdk_69_method_17_code
theorem d32_0 : DC c32 0 (.aload_n 0) 1 := by decide +kernel
theorem d32_1 : DC c32 1 (.getfield 105) 3 := by decide +kernel
theorem d32_4 : DC c32 4 (.astore_n 1) 1 := by decide +kernel
theorem d32_5 : DC c32 5 (.aload_n 1) 1 := by decide +kernel
theorem d32_6 : DC c32 6 (.ifnonnull 7) 3 := by decide +kernel
theorem d32_9 : DC c32 9 (.iconst 0) 1 := by decide +kernel
theorem d32_10 : DC c32 10 (.goto 5) 3 := by decide +kernel
theorem d32_15 : DC c32 15 (.istore_n 2) 1 := by decide +kernel
theorem d32_16 : DC c32 16 (.aload_n 0) 1 := by decide +kernel
theorem d32_17 : DC c32 17 (.getfield 88) 3 := by decide +kernel
theorem d32_20 : DC c32 20 (.istore_n 3) 1 := by decide +kernel
theorem d32_21 : DC c32 21 (.iconst 0) 1 := by decide +kernel
theorem d32_22 : DC c32 22 (.istore 5) 2 := by decide +kernel
theorem d32_24 : DC c32 24 (.iload_n 2) 1 := by decide +kernel
theorem d32_25 : DC c32 25 (.ifCond .le 42) 3 := by decide +kernel
theorem d32_67 : DC c32 67 (.iload_n 3) 1 := by decide +kernel
theorem d32_68 : DC c32 68 (.ifCond .le 9) 3 := by decide +kernel
theorem d32_77 : DC c32 77 (.bipush 16) 2 := by decide +kernel
theorem d32_79 : DC c32 79 (.istore 4) 2 := by decide +kernel
theorem d32_81 : DC c32 81 (.bipush 12) 2 := by decide +kernel
theorem d32_83 : DC c32 83 (.istore 5) 2 := by decide +kernel
theorem d32_85 : DC c32 85 (.iload 5) 2 := by decide +kernel
theorem d32_87 : DC c32 87 (.ifCond .ne 38) 3 := by decide +kernel
theorem d32_125 : DC c32 125 (.aload_n 0) 1 := by decide +kernel
theorem d32_126 : DC c32 126 (.iload 5) 2 := by decide +kernel
theorem d32_128 : DC c32 128 (.putfield 88) 3 := by decide +kernel
theorem d32_131 : DC c32 131 (.iload 4) 2 := by decide +kernel
theorem d32_133 : DC c32 133 (.anewarray 163) 3 := by decide +kernel
theorem d32_136 : DC c32 136 (.astore 6) 2 := by decide +kernel
theorem d32_138 : DC c32 138 (.aload_n 0) 1 := by decide +kernel
theorem d32_139 : DC c32 139 (.aload 6) 2 := by decide +kernel
theorem d32_141 : DC c32 141 (.putfield 105) 3 := by decide +kernel
def sn40 := slot_ne (Or.inl (w196 G)) (Or.inl (w203 G)) (by decide +kernel) (t := (.array (.object "java/util/HashMap$Node"))) (t' := .int) fd_6 fd_3
theorem d32_144 : DC c32 144 (.aload_n 1) 1 := by decide +kernel
theorem d32_145 : DC c32 145 (.ifnull 208) 3 := by decide +kernel
theorem d32_353 : DC c32 353 (.aload 6) 2 := by decide +kernel
theorem d32_355 : DC c32 355 .areturn 1 := by decide +kernel
def sn41 := slot_ne (Or.inr (w118 G)) (Or.inl (w203 G)) (by decide +kernel) (t := .boolean) (t' := .int) fd_0 fd_3
def sn42 := slot_ne (Or.inr (w118 G)) (Or.inl (w196 G)) (by decide +kernel) (t := .boolean) (t' := (.array (.object "java/util/HashMap$Node"))) fd_0 fd_6
def sn43 := slot_ne (Or.inl (w242 G)) (Or.inl (w203 G)) (by decide +kernel) (t := (.object "java/util/LinkedHashMap$Entry")) (t' := .int) fd_7 fd_3
def sn44 := slot_ne (Or.inl (w242 G)) (Or.inl (w196 G)) (by decide +kernel) (t := (.object "java/util/LinkedHashMap$Entry")) (t' := (.array (.object "java/util/HashMap$Node"))) fd_7 fd_6
def sn45 := slot_ne (Or.inr (w114 G)) (Or.inl (w203 G)) (by decide +kernel) (t := .float) (t' := .int) fd_5 fd_3
def sn46 := slot_ne (Or.inr (w114 G)) (Or.inl (w196 G)) (by decide +kernel) (t := .float) (t' := (.array (.object "java/util/HashMap$Node"))) fd_5 fd_6
def sn47 := slot_ne (Or.inl (w244 G)) (Or.inl (w203 G)) (by decide +kernel) (t := .int) (t' := .int) fd_3 fd_3
def sn48 := slot_ne (Or.inl (w244 G)) (Or.inl (w196 G)) (by decide +kernel) (t := .int) (t' := (.array (.object "java/util/HashMap$Node"))) fd_3 fd_6
def sn49 := slot_ne (Or.inl (w116 G)) (Or.inl (w203 G)) (by decide +kernel) (t := .int) (t' := .int) fd_3 fd_3
def sn50 := slot_ne (Or.inl (w116 G)) (Or.inl (w196 G)) (by decide +kernel) (t := .int) (t' := (.array (.object "java/util/HashMap$Node"))) fd_3 fd_6
def sn51 := slot_ne (Or.inl (w246 G)) (Or.inl (w203 G)) (by decide +kernel) (t := .int) (t' := .int) fd_3 fd_3
def sn52 := slot_ne (Or.inl (w246 G)) (Or.inl (w196 G)) (by decide +kernel) (t := .int) (t' := (.array (.object "java/util/HashMap$Node"))) fd_3 fd_6
def sn53 := slot_ne (Or.inl (w240 G)) (Or.inl (w203 G)) (by decide +kernel) (t := (.object "java/util/LinkedHashMap$Entry")) (t' := .int) fd_7 fd_3
def sn54 := slot_ne (Or.inl (w240 G)) (Or.inl (w196 G)) (by decide +kernel) (t := (.object "java/util/LinkedHashMap$Entry")) (t' := (.array (.object "java/util/HashMap$Node"))) fd_7 fd_6
def sn55 := slot_ne (Or.inl (w203 G)) (Or.inl (w196 G)) (by decide +kernel) (t := .int) (t' := (.array (.object "java/util/HashMap$Node"))) fd_3 fd_6
abbrev M32 := MM y34 c32 14 (some (.array (.object "java/util/HashMap$Node")))
theorem pd_20 : parseMethodDescriptor "()[Ljava/util/HashMap$Node;" = some ⟨[], (some (.array (.object "java/util/HashMap$Node")))⟩ := by decide +kernel
def u28 : WS_virtual Z a0 "java/util/HashMap" 117 "java/util/LinkedHashMap" y34 y34 c32 14 (some (.array (.object "java/util/HashMap$Node"))) 0 := ⟨(w201 G), (w103 G), (w197 G), (w198 G), (w200 G), (w199 G), (nf_sel (w200 G)), by decide +kernel, lenN pd_20 rfl⟩
theorem d31_23 : DC c31 23 .dup 1 := by decide +kernel
theorem d31_24 : DC c31 24 (.astore 6) 2 := by decide +kernel
theorem d31_26 : DC c31 26 .arraylength 1 := by decide +kernel
theorem d31_27 : DC c31 27 (.istore 8) 2 := by decide +kernel
theorem d31_29 : DC c31 29 (.aload 6) 2 := by decide +kernel
theorem d31_31 : DC c31 31 (.iload 8) 2 := by decide +kernel
theorem d31_33 : DC c31 33 (.iconst 1) 1 := by decide +kernel
theorem d31_34 : DC c31 34 .isub 1 := by decide +kernel
theorem d31_35 : DC c31 35 (.iload_n 1) 1 := by decide +kernel
theorem d31_36 : DC c31 36 .iand 1 := by decide +kernel
theorem d31_37 : DC c31 37 .dup 1 := by decide +kernel
theorem d31_38 : DC c31 38 (.istore 9) 2 := by decide +kernel
theorem d31_40 : DC c31 40 .aaload 1 := by decide +kernel
theorem d31_41 : DC c31 41 .dup 1 := by decide +kernel
theorem d31_42 : DC c31 42 (.astore 7) 2 := by decide +kernel
theorem d31_44 : DC c31 44 (.ifnonnull 19) 3 := by decide +kernel
theorem d31_47 : DC c31 47 (.aload 6) 2 := by decide +kernel
theorem d31_49 : DC c31 49 (.iload 9) 2 := by decide +kernel
theorem d31_51 : DC c31 51 (.aload_n 0) 1 := by decide +kernel
theorem d31_52 : DC c31 52 (.iload_n 1) 1 := by decide +kernel
theorem d31_53 : DC c31 53 (.aload_n 2) 1 := by decide +kernel
theorem d31_54 : DC c31 54 (.aload_n 3) 1 := by decide +kernel
theorem d31_55 : DC c31 55 .aconst_null 1 := by decide +kernel
theorem d31_56 : DC c31 56 (.invokevirtual 186) 3 := by decide +kernel
theorem ef19 {x0 : Addr} {x1 : Int32} {x2 : Addr} {x3 : Addr} (m : MethodId) : entryFrame m #[(.ref x0), (.int x1), (.ref x2), (.ref x3), .null] 6 = mkF m 0 #[.val (.ref x0), .val (.int x1), .val (.ref x2), .val (.ref x3), .val .null, .unset] [] := by simp [entryFrame, mkF, argsToLocals, Value.category, maxLocals]
abbrev y35 : MethodName := ⟨"java/util/LinkedHashMap", "newNode", "(ILjava/lang/Object;Ljava/lang/Object;Ljava/util/HashMap$Node;)Ljava/util/HashMap$Node;"⟩
theorem B33 : BI y35 "java/util/LinkedHashMap" "newNode" := ⟨(plainFor_of_name pn_java_util_LinkedHashMap), rfl, rfl⟩
abbrev c33 := jdk_94_method_4_code
theorem d33_0 : DC c33 0 (.new 15) 3 := by decide +kernel
theorem fd_8 : parseFieldDescriptor "Ljava/lang/Object;" = some (.object "java/lang/Object") := by decide +kernel
theorem fd_9 : parseFieldDescriptor "Ljava/util/HashMap$Node;" = some (.object "java/util/HashMap$Node") := by decide +kernel
theorem d33_3 : DC c33 3 .dup 1 := by decide +kernel
theorem d33_4 : DC c33 4 (.iload_n 1) 1 := by decide +kernel
theorem d33_5 : DC c33 5 (.aload_n 2) 1 := by decide +kernel
theorem d33_6 : DC c33 6 (.aload_n 3) 1 := by decide +kernel
theorem d33_7 : DC c33 7 (.aload 4) 2 := by decide +kernel
theorem d33_9 : DC c33 9 (.invokespecial 28) 3 := by decide +kernel
theorem ef20 {x0 : Addr} {x1 : Int32} {x2 : Addr} {x3 : Addr} (m : MethodId) : entryFrame m #[(.ref x0), (.int x1), (.ref x2), (.ref x3), .null] 5 = mkF m 0 #[.val (.ref x0), .val (.int x1), .val (.ref x2), .val (.ref x3), .val .null] [] := by simp [entryFrame, mkF, argsToLocals, Value.category, maxLocals]
theorem pn_java_util_LinkedHashMap_Entry : plainName "java/util/LinkedHashMap$Entry" = true := by first | decide +kernel | (simp [plainName, overriddenIn]; done)
abbrev y36 : MethodName := ⟨"java/util/LinkedHashMap$Entry", "<init>", "(ILjava/lang/Object;Ljava/lang/Object;Ljava/util/HashMap$Node;)V"⟩
theorem B34 : BI y36 "java/util/LinkedHashMap$Entry" "<init>" := ⟨(plainFor_of_name pn_java_util_LinkedHashMap_Entry), rfl, rfl⟩
abbrev c34 := jdk_83_method_1_code
theorem d34_0 : DC c34 0 (.aload_n 0) 1 := by decide +kernel
theorem d34_1 : DC c34 1 (.iload_n 1) 1 := by decide +kernel
theorem d34_2 : DC c34 2 (.aload_n 2) 1 := by decide +kernel
theorem d34_3 : DC c34 3 (.aload_n 3) 1 := by decide +kernel
theorem d34_4 : DC c34 4 (.aload 4) 2 := by decide +kernel
theorem d34_6 : DC c34 6 (.invokespecial 1) 3 := by decide +kernel
theorem pn_java_util_HashMap_Node : plainName "java/util/HashMap$Node" = true := by first | decide +kernel | (simp [plainName, overriddenIn]; done)
abbrev y37 : MethodName := ⟨"java/util/HashMap$Node", "<init>", "(ILjava/lang/Object;Ljava/lang/Object;Ljava/util/HashMap$Node;)V"⟩
theorem B35 : BI y37 "java/util/HashMap$Node" "<init>" := ⟨(plainFor_of_name pn_java_util_HashMap_Node), rfl, rfl⟩
abbrev c35 := jdk_70_method_1_code
theorem d35_0 : DC c35 0 (.aload_n 0) 1 := by decide +kernel
theorem d35_1 : DC c35 1 (.invokespecial 1) 3 := by decide +kernel
theorem d35_4 : DC c35 4 (.aload_n 0) 1 := by decide +kernel
theorem d35_5 : DC c35 5 (.iload_n 1) 1 := by decide +kernel
theorem d35_6 : DC c35 6 (.putfield 7) 3 := by decide +kernel
theorem d35_9 : DC c35 9 (.aload_n 0) 1 := by decide +kernel
theorem d35_10 : DC c35 10 (.aload_n 2) 1 := by decide +kernel
theorem d35_11 : DC c35 11 (.putfield 13) 3 := by decide +kernel
def sn56 := slot_ne (Or.inr (w229 G)) (Or.inr (w227 G)) (by decide +kernel) (t := (.object "java/lang/Object")) (t' := .int) fd_8 fd_3
theorem d35_14 : DC c35 14 (.aload_n 0) 1 := by decide +kernel
theorem d35_15 : DC c35 15 (.aload_n 3) 1 := by decide +kernel
theorem d35_16 : DC c35 16 (.putfield 17) 3 := by decide +kernel
def sn57 := slot_ne (Or.inl (w231 G)) (Or.inr (w227 G)) (by decide +kernel) (t := (.object "java/lang/Object")) (t' := .int) fd_8 fd_3
def sn58 := slot_ne (Or.inl (w231 G)) (Or.inr (w229 G)) (by decide +kernel) (t := (.object "java/lang/Object")) (t' := (.object "java/lang/Object")) fd_8 fd_8
theorem d35_19 : DC c35 19 (.aload_n 0) 1 := by decide +kernel
theorem d35_20 : DC c35 20 (.aload 4) 2 := by decide +kernel
theorem d35_22 : DC c35 22 (.putfield 20) 3 := by decide +kernel
def sn59 := slot_ne (Or.inl (w233 G)) (Or.inr (w227 G)) (by decide +kernel) (t := (.object "java/util/HashMap$Node")) (t' := .int) fd_9 fd_3
def sn60 := slot_ne (Or.inl (w233 G)) (Or.inr (w229 G)) (by decide +kernel) (t := (.object "java/util/HashMap$Node")) (t' := (.object "java/lang/Object")) fd_9 fd_8
def sn61 := slot_ne (Or.inl (w233 G)) (Or.inl (w231 G)) (by decide +kernel) (t := (.object "java/util/HashMap$Node")) (t' := (.object "java/lang/Object")) fd_9 fd_8
theorem d35_25 : DC c35 25 .return_ 1 := by decide +kernel
def sn62 := slot_ne (Or.inr (w227 G)) (Or.inr (w229 G)) (by decide +kernel) (t := .int) (t' := (.object "java/lang/Object")) fd_3 fd_8
def sn63 := slot_ne (Or.inr (w227 G)) (Or.inl (w231 G)) (by decide +kernel) (t := .int) (t' := (.object "java/lang/Object")) fd_3 fd_8
def sn64 := slot_ne (Or.inr (w227 G)) (Or.inl (w233 G)) (by decide +kernel) (t := .int) (t' := (.object "java/util/HashMap$Node")) fd_3 fd_9
def sn65 := slot_ne (Or.inr (w229 G)) (Or.inl (w231 G)) (by decide +kernel) (t := (.object "java/lang/Object")) (t' := (.object "java/lang/Object")) fd_8 fd_8
def sn66 := slot_ne (Or.inr (w229 G)) (Or.inl (w233 G)) (by decide +kernel) (t := (.object "java/lang/Object")) (t' := (.object "java/util/HashMap$Node")) fd_8 fd_9
def sn67 := slot_ne (Or.inl (w231 G)) (Or.inl (w233 G)) (by decide +kernel) (t := (.object "java/lang/Object")) (t' := (.object "java/util/HashMap$Node")) fd_8 fd_9
abbrev M35 := MM y37 c35 5 none
theorem pd_21 : parseMethodDescriptor "(ILjava/lang/Object;Ljava/lang/Object;Ljava/util/HashMap$Node;)V" = some ⟨[.int, (.object "java/lang/Object"), (.object "java/lang/Object"), (.object "java/util/HashMap$Node")], none⟩ := by decide +kernel
def u29 : WS_special Z a0 "java/util/LinkedHashMap$Entry" 1 y37 c35 5 4 := ⟨(w223 G), rfl, (w219 G), (w220 G), (w224 G), by decide +kernel, lenN pd_21 rfl⟩
theorem d34_9 : DC c34 9 .return_ 1 := by decide +kernel
abbrev M34 := MM y36 c34 5 none
def u30 : WS_special Z a0 "java/util/LinkedHashMap" 28 y36 c34 5 4 := ⟨(w214 G), rfl, (w215 G), (w216 G), (w218 G), by decide +kernel, lenN pd_21 rfl⟩
theorem d33_12 : DC c33 12 (.astore 5) 2 := by decide +kernel
theorem d33_14 : DC c33 14 (.aload_n 0) 1 := by decide +kernel
theorem d33_15 : DC c33 15 (.aload 5) 2 := by decide +kernel
theorem d33_17 : DC c33 17 (.invokevirtual 32) 3 := by decide +kernel
theorem ef21 {x0 : Addr} {x1 : Addr} (m : MethodId) : entryFrame m #[(.ref x0), (.ref x1)] 3 = mkF m 0 #[.val (.ref x0), .val (.ref x1), .unset] [] := by simp [entryFrame, mkF, argsToLocals, Value.category, maxLocals]
abbrev y38 : MethodName := ⟨"java/util/LinkedHashMap", "linkNodeAtEnd", "(Ljava/util/LinkedHashMap$Entry;)V"⟩
theorem B36 : BI y38 "java/util/LinkedHashMap" "linkNodeAtEnd" := ⟨(plainFor_of_name pn_java_util_LinkedHashMap), rfl, rfl⟩
abbrev c36 := jdk_94_method_1_code
theorem d36_0 : DC c36 0 (.aload_n 0) 1 := by decide +kernel
theorem d36_1 : DC c36 1 (.getfield 1) 3 := by decide +kernel
theorem d36_4 : DC c36 4 (.iconst 1) 1 := by decide +kernel
theorem d36_5 : DC c36 5 (.if_icmp .ne 38) 3 := by decide +kernel
theorem d36_43 : DC c36 43 (.aload_n 0) 1 := by decide +kernel
theorem d36_44 : DC c36 44 (.getfield 11) 3 := by decide +kernel
theorem d36_47 : DC c36 47 (.astore_n 2) 1 := by decide +kernel
theorem d36_48 : DC c36 48 (.aload_n 0) 1 := by decide +kernel
theorem d36_49 : DC c36 49 (.aload_n 1) 1 := by decide +kernel
theorem d36_50 : DC c36 50 (.putfield 11) 3 := by decide +kernel
theorem d36_53 : DC c36 53 (.aload_n 2) 1 := by decide +kernel
theorem d36_54 : DC c36 54 (.ifnonnull 11) 3 := by decide +kernel
theorem d36_57 : DC c36 57 (.aload_n 0) 1 := by decide +kernel
theorem d36_58 : DC c36 58 (.aload_n 1) 1 := by decide +kernel
theorem d36_59 : DC c36 59 (.putfield 7) 3 := by decide +kernel
def sn68 := slot_ne (Or.inl (w242 G)) (Or.inl (w240 G)) (by decide +kernel) (t := (.object "java/util/LinkedHashMap$Entry")) (t' := (.object "java/util/LinkedHashMap$Entry")) fd_7 fd_7
theorem d36_62 : DC c36 62 (.goto 13) 3 := by decide +kernel
theorem d36_75 : DC c36 75 .return_ 1 := by decide +kernel
def sn69 := slot_ne (Or.inr (w118 G)) (Or.inl (w240 G)) (by decide +kernel) (t := .boolean) (t' := (.object "java/util/LinkedHashMap$Entry")) fd_0 fd_7
def sn70 := slot_ne (Or.inr (w118 G)) (Or.inl (w242 G)) (by decide +kernel) (t := .boolean) (t' := (.object "java/util/LinkedHashMap$Entry")) fd_0 fd_7
def sn71 := slot_ne (Or.inr (w114 G)) (Or.inl (w240 G)) (by decide +kernel) (t := .float) (t' := (.object "java/util/LinkedHashMap$Entry")) fd_5 fd_7
def sn72 := slot_ne (Or.inr (w114 G)) (Or.inl (w242 G)) (by decide +kernel) (t := .float) (t' := (.object "java/util/LinkedHashMap$Entry")) fd_5 fd_7
def sn73 := slot_ne (Or.inl (w244 G)) (Or.inl (w240 G)) (by decide +kernel) (t := .int) (t' := (.object "java/util/LinkedHashMap$Entry")) fd_3 fd_7
def sn74 := slot_ne (Or.inl (w244 G)) (Or.inl (w242 G)) (by decide +kernel) (t := .int) (t' := (.object "java/util/LinkedHashMap$Entry")) fd_3 fd_7
def sn75 := slot_ne (Or.inl (w116 G)) (Or.inl (w240 G)) (by decide +kernel) (t := .int) (t' := (.object "java/util/LinkedHashMap$Entry")) fd_3 fd_7
def sn76 := slot_ne (Or.inl (w116 G)) (Or.inl (w242 G)) (by decide +kernel) (t := .int) (t' := (.object "java/util/LinkedHashMap$Entry")) fd_3 fd_7
def sn77 := slot_ne (Or.inl (w246 G)) (Or.inl (w240 G)) (by decide +kernel) (t := .int) (t' := (.object "java/util/LinkedHashMap$Entry")) fd_3 fd_7
def sn78 := slot_ne (Or.inl (w246 G)) (Or.inl (w242 G)) (by decide +kernel) (t := .int) (t' := (.object "java/util/LinkedHashMap$Entry")) fd_3 fd_7
def sn79 := slot_ne (Or.inl (w196 G)) (Or.inl (w240 G)) (by decide +kernel) (t := (.array (.object "java/util/HashMap$Node"))) (t' := (.object "java/util/LinkedHashMap$Entry")) fd_6 fd_7
def sn80 := slot_ne (Or.inl (w196 G)) (Or.inl (w242 G)) (by decide +kernel) (t := (.array (.object "java/util/HashMap$Node"))) (t' := (.object "java/util/LinkedHashMap$Entry")) fd_6 fd_7
def sn81 := slot_ne (Or.inl (w240 G)) (Or.inl (w242 G)) (by decide +kernel) (t := (.object "java/util/LinkedHashMap$Entry")) (t' := (.object "java/util/LinkedHashMap$Entry")) fd_7 fd_7
def sn82 := slot_ne (Or.inl (w203 G)) (Or.inl (w240 G)) (by decide +kernel) (t := .int) (t' := (.object "java/util/LinkedHashMap$Entry")) fd_3 fd_7
def sn83 := slot_ne (Or.inl (w203 G)) (Or.inl (w242 G)) (by decide +kernel) (t := .int) (t' := (.object "java/util/LinkedHashMap$Entry")) fd_3 fd_7
abbrev M36 := MM y38 c36 3 none
theorem pd_22 : parseMethodDescriptor "(Ljava/util/LinkedHashMap$Entry;)V" = some ⟨[(.object "java/util/LinkedHashMap$Entry")], none⟩ := by decide +kernel
def u31 : WS_virtual Z a0 "java/util/LinkedHashMap" 32 "java/util/LinkedHashMap" y38 y38 c36 3 none 1 := ⟨(w238 G), (w95 G), (w234 G), (own_decl (w235 G) (w238 G)), (w237 G), (w235 G), (nf_sel (w237 G)), by decide +kernel, lenN pd_22 rfl⟩
theorem d33_20 : DC c33 20 (.aload 5) 2 := by decide +kernel
theorem d33_22 : DC c33 22 .areturn 1 := by decide +kernel
abbrev M33 := MM y35 c33 6 (some (.object "java/util/HashMap$Node"))
theorem pd_23 : parseMethodDescriptor "(ILjava/lang/Object;Ljava/lang/Object;Ljava/util/HashMap$Node;)Ljava/util/HashMap$Node;" = some ⟨[.int, (.object "java/lang/Object"), (.object "java/lang/Object"), (.object "java/util/HashMap$Node")], (some (.object "java/util/HashMap$Node"))⟩ := by decide +kernel
abbrev y39 : MethodName := ⟨"java/util/HashMap", "newNode", "(ILjava/lang/Object;Ljava/lang/Object;Ljava/util/HashMap$Node;)Ljava/util/HashMap$Node;"⟩
def u32 : WS_virtual Z a0 "java/util/HashMap" 186 "java/util/LinkedHashMap" y39 y35 c33 6 (some (.object "java/util/HashMap$Node")) 4 := ⟨(w211 G), (w95 G), (w206 G), (w207 G), (w209 G), (w210 G), (own_nfZ (w153 G) rfl), by decide +kernel, lenN pd_23 rfl⟩
theorem d31_59 : DC c31 59 .aastore 1 := by decide +kernel
theorem d31_60 : DC c31 60 (.goto 199) 3 := by decide +kernel
theorem d31_259 : DC c31 259 (.aload_n 0) 1 := by decide +kernel
theorem d31_260 : DC c31 260 .dup 1 := by decide +kernel
theorem d31_261 : DC c31 261 (.getfield 202) 3 := by decide +kernel
theorem d31_264 : DC c31 264 (.iconst 1) 1 := by decide +kernel
theorem d31_265 : DC c31 265 .iadd 1 := by decide +kernel
theorem d31_266 : DC c31 266 (.putfield 202) 3 := by decide +kernel
theorem d31_269 : DC c31 269 (.aload_n 0) 1 := by decide +kernel
theorem d31_270 : DC c31 270 .dup 1 := by decide +kernel
theorem d31_271 : DC c31 271 (.getfield 156) 3 := by decide +kernel
def sn84 := slot_ne (Or.inl (w246 G)) (Or.inl (w244 G)) (by decide +kernel) (t := .int) (t' := .int) fd_3 fd_3
theorem d31_274 : DC c31 274 (.iconst 1) 1 := by decide +kernel
theorem d31_275 : DC c31 275 .iadd 1 := by decide +kernel
theorem d31_276 : DC c31 276 .dup_x1 1 := by decide +kernel
theorem d31_277 : DC c31 277 (.putfield 156) 3 := by decide +kernel
theorem d31_280 : DC c31 280 (.aload_n 0) 1 := by decide +kernel
theorem d31_281 : DC c31 281 (.getfield 88) 3 := by decide +kernel
def sn85 := slot_ne (Or.inl (w203 G)) (Or.inl (w244 G)) (by decide +kernel) (t := .int) (t' := .int) fd_3 fd_3
def sn86 := slot_ne (Or.inl (w203 G)) (Or.inl (w246 G)) (by decide +kernel) (t := .int) (t' := .int) fd_3 fd_3
theorem d31_284 : DC c31 284 (.if_icmp .le 8) 3 := by decide +kernel
theorem d31_292 : DC c31 292 (.aload_n 0) 1 := by decide +kernel
theorem d31_293 : DC c31 293 (.iload 5) 2 := by decide +kernel
theorem d31_295 : DC c31 295 (.invokevirtual 205) 3 := by decide +kernel
abbrev y40 : MethodName := ⟨"java/util/LinkedHashMap", "afterNodeInsertion", "(Z)V"⟩
theorem B37 : BI y40 "java/util/LinkedHashMap" "afterNodeInsertion" := ⟨(plainFor_of_name pn_java_util_LinkedHashMap), rfl, rfl⟩
abbrev c37 := jdk_94_method_9_code
theorem d37_0 : DC c37 0 (.iload_n 1) 1 := by decide +kernel
theorem d37_1 : DC c37 1 (.ifCond .eq 38) 3 := by decide +kernel
theorem d37_4 : DC c37 4 (.aload_n 0) 1 := by decide +kernel
theorem d37_5 : DC c37 5 (.getfield 7) 3 := by decide +kernel
theorem d37_8 : DC c37 8 .dup 1 := by decide +kernel
theorem d37_9 : DC c37 9 (.astore_n 2) 1 := by decide +kernel
theorem d37_10 : DC c37 10 (.ifnull 29) 3 := by decide +kernel
theorem d37_13 : DC c37 13 (.aload_n 0) 1 := by decide +kernel
theorem d37_14 : DC c37 14 (.aload_n 2) 1 := by decide +kernel
theorem d37_15 : DC c37 15 (.invokevirtual 53) 3 := by decide +kernel
abbrev y41 : MethodName := ⟨"java/util/LinkedHashMap", "removeEldestEntry", "(Ljava/util/Map$Entry;)Z"⟩
theorem B38 : BI y41 "java/util/LinkedHashMap" "removeEldestEntry" := ⟨(plainFor_of_name pn_java_util_LinkedHashMap), rfl, rfl⟩
abbrev c38 := jdk_94_method_23_code
theorem d38_0 : DC c38 0 (.iconst 0) 1 := by decide +kernel
theorem d38_1 : DC c38 1 .ireturn 1 := by decide +kernel
abbrev M38 := MM y41 c38 2 (some .boolean)
theorem pd_24 : parseMethodDescriptor "(Ljava/util/Map$Entry;)Z" = some ⟨[(.object "java/util/Map$Entry")], (some .boolean)⟩ := by decide +kernel
def u33 : WS_virtual Z a0 "java/util/LinkedHashMap" 53 "java/util/LinkedHashMap" y41 y41 c38 2 (some .boolean) 1 := ⟨(w257 G), (w95 G), (w253 G), (w254 G), (w256 G), (w255 G), (nf_sel (w256 G)), by decide +kernel, lenN pd_24 rfl⟩
theorem d37_18 : DC c37 18 (.ifCond .eq 21) 3 := by decide +kernel
theorem d37_39 : DC c37 39 .return_ 1 := by decide +kernel
abbrev M37 := MM y40 c37 4 none
def sn87 := slot_ne (Or.inl (w242 G)) (Or.inl (w244 G)) (by decide +kernel) (t := (.object "java/util/LinkedHashMap$Entry")) (t' := .int) fd_7 fd_3
def sn88 := slot_ne (Or.inl (w242 G)) (Or.inl (w246 G)) (by decide +kernel) (t := (.object "java/util/LinkedHashMap$Entry")) (t' := .int) fd_7 fd_3
theorem pd_25 : parseMethodDescriptor "(Z)V" = some ⟨[.boolean], none⟩ := by decide +kernel
abbrev y42 : MethodName := ⟨"java/util/HashMap", "afterNodeInsertion", "(Z)V"⟩
def u34 : WS_virtual Z a0 "java/util/HashMap" 205 "java/util/LinkedHashMap" y42 y40 c37 4 none 1 := ⟨(w252 G), (w95 G), (w247 G), (w248 G), (w250 G), (w251 G), (own_nfZ (w153 G) rfl), by decide +kernel, lenN pd_25 rfl⟩
theorem d31_298 : DC c31 298 .aconst_null 1 := by decide +kernel
theorem d31_299 : DC c31 299 .areturn 1 := by decide +kernel
def sn89 := slot_ne (Or.inr (w118 G)) (Or.inl (w244 G)) (by decide +kernel) (t := .boolean) (t' := .int) fd_0 fd_3
def sn90 := slot_ne (Or.inr (w118 G)) (Or.inl (w246 G)) (by decide +kernel) (t := .boolean) (t' := .int) fd_0 fd_3
def sn91 := slot_ne (Or.inr (w114 G)) (Or.inl (w244 G)) (by decide +kernel) (t := .float) (t' := .int) fd_5 fd_3
def sn92 := slot_ne (Or.inr (w114 G)) (Or.inl (w246 G)) (by decide +kernel) (t := .float) (t' := .int) fd_5 fd_3
def sn93 := slot_ne (Or.inl (w244 G)) (Or.inl (w246 G)) (by decide +kernel) (t := .int) (t' := .int) fd_3 fd_3
def sn94 := slot_ne (Or.inl (w116 G)) (Or.inl (w244 G)) (by decide +kernel) (t := .int) (t' := .int) fd_3 fd_3
def sn95 := slot_ne (Or.inl (w116 G)) (Or.inl (w246 G)) (by decide +kernel) (t := .int) (t' := .int) fd_3 fd_3
def sn96 := slot_ne (Or.inl (w196 G)) (Or.inl (w244 G)) (by decide +kernel) (t := (.array (.object "java/util/HashMap$Node"))) (t' := .int) fd_6 fd_3
def sn97 := slot_ne (Or.inl (w196 G)) (Or.inl (w246 G)) (by decide +kernel) (t := (.array (.object "java/util/HashMap$Node"))) (t' := .int) fd_6 fd_3
def sn98 := slot_ne (Or.inl (w240 G)) (Or.inl (w244 G)) (by decide +kernel) (t := (.object "java/util/LinkedHashMap$Entry")) (t' := .int) fd_7 fd_3
def sn99 := slot_ne (Or.inl (w240 G)) (Or.inl (w246 G)) (by decide +kernel) (t := (.object "java/util/LinkedHashMap$Entry")) (t' := .int) fd_7 fd_3
abbrev M31 := MM y33 c31 13 (some (.object "java/lang/Object"))
theorem pd_26 : parseMethodDescriptor "(ILjava/lang/Object;Ljava/lang/Object;ZZ)Ljava/lang/Object;" = some ⟨[.int, (.object "java/lang/Object"), (.object "java/lang/Object"), .boolean, .boolean], (some (.object "java/lang/Object"))⟩ := by decide +kernel
def u35 : WS_virtual Z a0 "java/util/HashMap" 152 "java/util/LinkedHashMap" y33 y33 c31 13 (some (.object "java/lang/Object")) 5 := ⟨(w194 G), (w103 G), (w190 G), (w191 G), (w193 G), (w192 G), (nf_sel (w193 G)), by decide +kernel, lenN pd_26 rfl⟩
theorem d29_12 : DC c29 12 .areturn 1 := by decide +kernel
abbrev M29 := MM y30 c29 3 (some (.object "java/lang/Object"))
theorem pd_27 : parseMethodDescriptor "(Ljava/lang/Object;Ljava/lang/Object;)Ljava/lang/Object;" = some ⟨[(.object "java/lang/Object"), (.object "java/lang/Object")], (some (.object "java/lang/Object"))⟩ := by decide +kernel
abbrev y43 : MethodName := ⟨"java/util/Map", "put", "(Ljava/lang/Object;Ljava/lang/Object;)Ljava/lang/Object;"⟩
def u36 : WS_iface Z a0 "com/example/hedgerow/hedgerow/records/Record" 38 "java/util/LinkedHashMap" y43 y30 c29 3 (some (.object "java/lang/Object")) 2 := ⟨(w158 G), (w103 G), (w150 G), (w151 G), (w152 G), (w153 G), (w154 G), (w155 G), (w156 G), (w157 G), by first | rfl | simp [Cond.onTables, Cond.keepsFace, Cond.keeps, Cond.steady], by decide +kernel, lenN pd_27 rfl⟩
theorem d20_53 : DC c20 53 .pop 1 := by decide +kernel
theorem d20_54 : DC c20 54 (.iinc 6 1) 3 := by decide +kernel
theorem d20_57 : DC c20 57 (.goto (-45)) 3 := by decide +kernel
theorem d20_60 : DC c20 60 (.new 8) 3 := by decide +kernel
theorem fd_10 : parseFieldDescriptor "Ljava/lang/String;" = some (.object "java/lang/String") := by decide +kernel
theorem fd_11 : parseFieldDescriptor "Ljava/util/Map;" = some (.object "java/util/Map") := by decide +kernel
theorem d20_63 : DC c20 63 .dup 1 := by decide +kernel
theorem d20_64 : DC c20 64 (.aload_n 0) 1 := by decide +kernel
theorem d20_65 : DC c20 65 (.aload_n 1) 1 := by decide +kernel
theorem d20_66 : DC c20 66 (.aload_n 2) 1 := by decide +kernel
theorem d20_67 : DC c20 67 (.aload 5) 2 := by decide +kernel
theorem d20_69 : DC c20 69 (.invokestatic 44) 3 := by decide +kernel
theorem pn_java_util_Collections : plainName "java/util/Collections" = true := by first | decide +kernel | (simp [plainName, overriddenIn]; done)
abbrev y44 : MethodName := ⟨"java/util/Collections", "unmodifiableMap", "(Ljava/util/Map;)Ljava/util/Map;"⟩
theorem B39 : BI y44 "java/util/Collections" "unmodifiableMap" := ⟨(plainFor_of_name pn_java_util_Collections), rfl, rfl⟩
abbrev c39 := jdk_79_method_36_code
theorem d39_0 : DC c39 0 (.aload_n 0) 1 := by decide +kernel
theorem d39_1 : DC c39 1 (.invokeinterface 220 1) 5 := by decide +kernel
theorem d39_6 : DC c39 6 (.ldc 223) 2 := by decide +kernel
theorem d39_8 : DC c39 8 (.if_acmp .ne 5) 3 := by decide +kernel
theorem d39_13 : DC c39 13 (.new 223) 3 := by decide +kernel
theorem d39_16 : DC c39 16 .dup 1 := by decide +kernel
theorem d39_17 : DC c39 17 (.aload_n 0) 1 := by decide +kernel
theorem d39_18 : DC c39 18 (.invokespecial 225) 3 := by decide +kernel
theorem pn_java_util_Collections_UnmodifiableMap : plainName "java/util/Collections$UnmodifiableMap" = true := by first | decide +kernel | (simp [plainName, overriddenIn]; done)
abbrev y45 : MethodName := ⟨"java/util/Collections$UnmodifiableMap", "<init>", "(Ljava/util/Map;)V"⟩
theorem B40 : BI y45 "java/util/Collections$UnmodifiableMap" "<init>" := ⟨(plainFor_of_name pn_java_util_Collections_UnmodifiableMap), rfl, rfl⟩
abbrev c40 := jdk_2500_method_1_code
theorem d40_0 : DC c40 0 (.aload_n 0) 1 := by decide +kernel
theorem d40_1 : DC c40 1 (.invokespecial 1) 3 := by decide +kernel
theorem d40_4 : DC c40 4 (.aload_n 1) 1 := by decide +kernel
theorem d40_5 : DC c40 5 (.ifnonnull 11) 3 := by decide +kernel
theorem d40_16 : DC c40 16 (.aload_n 0) 1 := by decide +kernel
theorem d40_17 : DC c40 17 (.aload_n 1) 1 := by decide +kernel
theorem d40_18 : DC c40 18 (.putfield 10) 3 := by decide +kernel
theorem d40_21 : DC c40 21 .return_ 1 := by decide +kernel
abbrev M40 := MM y45 c40 2 none
theorem pd_28 : parseMethodDescriptor "(Ljava/util/Map;)V" = some ⟨[(.object "java/util/Map")], none⟩ := by decide +kernel
def u37 : WS_special Z a0 "java/util/Collections" 225 y45 c40 2 1 := ⟨(w276 G), rfl, (w277 G), (w278 G), (w279 G), by decide +kernel, lenN pd_28 rfl⟩
theorem d39_21 : DC c39 21 .areturn 1 := by decide +kernel
abbrev M39 := MM y44 c39 1 (some (.object "java/util/Map"))
theorem pd_29 : parseMethodDescriptor "(Ljava/util/Map;)Ljava/util/Map;" = some ⟨[(.object "java/util/Map")], (some (.object "java/util/Map"))⟩ := by decide +kernel
def u38 : WS_static Z a0 "com/example/hedgerow/hedgerow/records/Record" 44 y44 c39 1 (some (.object "java/util/Map")) 1 := ⟨(w260 G), (w261 G), (w262 G), (w263 G), by decide +kernel, lenN pd_29 rfl⟩
theorem d20_72 : DC c20 72 (.invokespecial 50) 3 := by decide +kernel
theorem ef22 {x0 : Addr} {x1 : Addr} {x2 : Addr} {x3 : Addr} {x4 : Addr} (m : MethodId) : entryFrame m #[(.ref x0), (.ref x1), (.ref x2), (.ref x3), (.ref x4)] 5 = mkF m 0 #[.val (.ref x0), .val (.ref x1), .val (.ref x2), .val (.ref x3), .val (.ref x4)] [] := by simp [entryFrame, mkF, argsToLocals, Value.category, maxLocals]
abbrev y46 : MethodName := ⟨"com/example/hedgerow/hedgerow/records/Record", "<init>", "(Ljava/lang/String;Ljava/lang/String;Ljava/lang/String;Ljava/util/Map;)V"⟩
theorem B41 : BI y46 "com/example/hedgerow/hedgerow/records/Record" "<init>" := ⟨(plainFor_of_name pn_com_example_hedgerow_hedgerow_records_Record), rfl, rfl⟩
abbrev c41 := prog_9_method_1_code
theorem d41_0 : DC c41 0 (.aload_n 0) 1 := by decide +kernel
theorem d41_1 : DC c41 1 (.invokespecial 1) 3 := by decide +kernel
theorem pn_java_lang_Record : plainName "java/lang/Record" = true := by first | decide +kernel | (simp [plainName, overriddenIn]; done)
abbrev y47 : MethodName := ⟨"java/lang/Record", "<init>", "()V"⟩
theorem B42 : BI y47 "java/lang/Record" "<init>" := ⟨(plainFor_of_name pn_java_lang_Record), rfl, rfl⟩
abbrev c42 := jdk_30_method_1_code
theorem d42_0 : DC c42 0 (.aload_n 0) 1 := by decide +kernel
theorem d42_1 : DC c42 1 (.invokespecial 1) 3 := by decide +kernel
theorem d42_4 : DC c42 4 .return_ 1 := by decide +kernel
abbrev M42 := MM y47 c42 1 none
def u39 : WS_special Z a0 "com/example/hedgerow/hedgerow/records/Record" 1 y47 c42 1 0 := ⟨(w289 G), rfl, (w286 G), (w287 G), (w290 G), by decide +kernel, lenN pd_10 rfl⟩
theorem d41_4 : DC c41 4 (.aload_n 0) 1 := by decide +kernel
theorem d41_5 : DC c41 5 (.aload_n 1) 1 := by decide +kernel
theorem d41_6 : DC c41 6 (.putfield 7) 3 := by decide +kernel
theorem d41_9 : DC c41 9 (.aload_n 0) 1 := by decide +kernel
theorem d41_10 : DC c41 10 (.aload_n 2) 1 := by decide +kernel
theorem d41_11 : DC c41 11 (.putfield 13) 3 := by decide +kernel
def sn100 := slot_ne (Or.inr (w295 G)) (Or.inr (w293 G)) (by decide +kernel) (t := (.object "java/lang/String")) (t' := (.object "java/lang/String")) fd_10 fd_10
theorem d41_14 : DC c41 14 (.aload_n 0) 1 := by decide +kernel
theorem d41_15 : DC c41 15 (.aload_n 3) 1 := by decide +kernel
theorem d41_16 : DC c41 16 (.putfield 16) 3 := by decide +kernel
def sn101 := slot_ne (Or.inr (w297 G)) (Or.inr (w293 G)) (by decide +kernel) (t := (.object "java/lang/String")) (t' := (.object "java/lang/String")) fd_10 fd_10
def sn102 := slot_ne (Or.inr (w297 G)) (Or.inr (w295 G)) (by decide +kernel) (t := (.object "java/lang/String")) (t' := (.object "java/lang/String")) fd_10 fd_10
theorem d41_19 : DC c41 19 (.aload_n 0) 1 := by decide +kernel
theorem d41_20 : DC c41 20 (.aload 4) 2 := by decide +kernel
theorem d41_22 : DC c41 22 (.putfield 19) 3 := by decide +kernel
def sn103 := slot_ne (Or.inr (w299 G)) (Or.inr (w293 G)) (by decide +kernel) (t := (.object "java/util/Map")) (t' := (.object "java/lang/String")) fd_11 fd_10
def sn104 := slot_ne (Or.inr (w299 G)) (Or.inr (w295 G)) (by decide +kernel) (t := (.object "java/util/Map")) (t' := (.object "java/lang/String")) fd_11 fd_10
def sn105 := slot_ne (Or.inr (w299 G)) (Or.inr (w297 G)) (by decide +kernel) (t := (.object "java/util/Map")) (t' := (.object "java/lang/String")) fd_11 fd_10
theorem d41_25 : DC c41 25 .return_ 1 := by decide +kernel
def sn106 := slot_ne (Or.inr (w293 G)) (Or.inr (w295 G)) (by decide +kernel) (t := (.object "java/lang/String")) (t' := (.object "java/lang/String")) fd_10 fd_10
def sn107 := slot_ne (Or.inr (w293 G)) (Or.inr (w297 G)) (by decide +kernel) (t := (.object "java/lang/String")) (t' := (.object "java/lang/String")) fd_10 fd_10
def sn108 := slot_ne (Or.inr (w293 G)) (Or.inr (w299 G)) (by decide +kernel) (t := (.object "java/lang/String")) (t' := (.object "java/util/Map")) fd_10 fd_11
def sn109 := slot_ne (Or.inr (w295 G)) (Or.inr (w297 G)) (by decide +kernel) (t := (.object "java/lang/String")) (t' := (.object "java/lang/String")) fd_10 fd_10
def sn110 := slot_ne (Or.inr (w295 G)) (Or.inr (w299 G)) (by decide +kernel) (t := (.object "java/lang/String")) (t' := (.object "java/util/Map")) fd_10 fd_11
def sn111 := slot_ne (Or.inr (w297 G)) (Or.inr (w299 G)) (by decide +kernel) (t := (.object "java/lang/String")) (t' := (.object "java/util/Map")) fd_10 fd_11
abbrev M41 := MM y46 c41 5 none
theorem pd_30 : parseMethodDescriptor "(Ljava/lang/String;Ljava/lang/String;Ljava/lang/String;Ljava/util/Map;)V" = some ⟨[(.object "java/lang/String"), (.object "java/lang/String"), (.object "java/lang/String"), (.object "java/util/Map")], none⟩ := by decide +kernel
def u40 : WS_special Z a0 "com/example/hedgerow/hedgerow/records/Record" 50 y46 c41 5 4 := ⟨(w91 G), rfl, (w283 G), (w284 G), (w285 G), by decide +kernel, lenN pd_30 rfl⟩
theorem d20_75 : DC c20 75 .areturn 1 := by decide +kernel
abbrev M20 := MM y19 c20 7 (some (.object "com/example/hedgerow/hedgerow/records/Record"))
theorem pd_31 : parseMethodDescriptor "(Ljava/lang/String;Ljava/lang/String;Ljava/lang/String;Ljava/util/List;Ljava/util/List;)Lcom/example/hedgerow/hedgerow/records/Record;" = some ⟨[(.object "java/lang/String"), (.object "java/lang/String"), (.object "java/lang/String"), (.object "java/util/List"), (.object "java/util/List")], (some (.object "com/example/hedgerow/hedgerow/records/Record"))⟩ := by decide +kernel
def u41 : WS_static Z a0 "com/example/hedgerow/hedgerow/records/RecordWithOwnerPinLaw" 25 y19 c20 7 (some (.object "com/example/hedgerow/hedgerow/records/Record")) 5 := ⟨(w89 G), (w90 G), (w91 G), (w92 G), by decide +kernel, lenN pd_31 rfl⟩
abbrev y48 : MethodName := ⟨"com/example/hedgerow/hedgerow/records/Record", "fields", "()Ljava/util/Map;"⟩
theorem B43 : BI y48 "com/example/hedgerow/hedgerow/records/Record" "fields" := ⟨(plainFor_of_name pn_com_example_hedgerow_hedgerow_records_Record), rfl, rfl⟩
abbrev c43 := prog_9_method_11_code
theorem d43_0 : DC c43 0 (.aload_n 0) 1 := by decide +kernel
theorem d43_1 : DC c43 1 (.getfield 19) 3 := by decide +kernel
theorem d43_4 : DC c43 4 .areturn 1 := by decide +kernel
abbrev M43 := MM y48 c43 1 (some (.object "java/util/Map"))
theorem pd_32 : parseMethodDescriptor "()Ljava/util/Map;" = some ⟨[], (some (.object "java/util/Map"))⟩ := by decide +kernel
def u42 : WS_virtual Z a0 "com/example/hedgerow/hedgerow/records/RecordWithOwnerPinLaw" 31 "com/example/hedgerow/hedgerow/records/Record" y48 y48 c43 1 (some (.object "java/util/Map")) 0 := ⟨(w304 G), (w91 G), (w300 G), (w301 G), (w303 G), (w302 G), (nf_sel (w303 G)), by decide +kernel, lenN pd_32 rfl⟩
def u43 : WS_special Z a0 "com/example/hedgerow/hedgerow/records/RecordWithOwnerPinLaw" 35 y46 c41 5 4 := ⟨(w91 G), rfl, (w306 G), (w284 G), (w285 G), by decide +kernel, lenN pd_30 rfl⟩
abbrev y49 : MethodName := ⟨"com/example/hedgerow/hedgerow/records/Record", "withOwner", "(Ljava/lang/String;)Lcom/example/hedgerow/hedgerow/records/Record;"⟩
theorem B44 : BI y49 "com/example/hedgerow/hedgerow/records/Record" "withOwner" := ⟨(plainFor_of_name pn_com_example_hedgerow_hedgerow_records_Record), rfl, rfl⟩
abbrev c44 := prog_9_method_3_code
theorem d44_0 : DC c44 0 (.new 8) 3 := by decide +kernel
theorem d44_3 : DC c44 3 .dup 1 := by decide +kernel
theorem d44_4 : DC c44 4 (.aload_n 0) 1 := by decide +kernel
theorem d44_5 : DC c44 5 (.getfield 7) 3 := by decide +kernel
theorem d44_8 : DC c44 8 (.aload_n 0) 1 := by decide +kernel
theorem d44_9 : DC c44 9 (.getfield 13) 3 := by decide +kernel
theorem d44_12 : DC c44 12 (.aload_n 1) 1 := by decide +kernel
theorem d44_13 : DC c44 13 (.aload_n 0) 1 := by decide +kernel
theorem d44_14 : DC c44 14 (.getfield 19) 3 := by decide +kernel
theorem d44_17 : DC c44 17 (.invokespecial 50) 3 := by decide +kernel
theorem d44_20 : DC c44 20 .areturn 1 := by decide +kernel
abbrev M44 := MM y49 c44 2 (some (.object "com/example/hedgerow/hedgerow/records/Record"))
theorem pd_33 : parseMethodDescriptor "(Ljava/lang/String;)Lcom/example/hedgerow/hedgerow/records/Record;" = some ⟨[(.object "java/lang/String")], (some (.object "com/example/hedgerow/hedgerow/records/Record"))⟩ := by decide +kernel
def u44 : WS_virtual Z a0 "com/example/hedgerow/hedgerow/records/RecordWithOwnerPinLaw" 38 "com/example/hedgerow/hedgerow/records/Record" y49 y49 c44 2 (some (.object "com/example/hedgerow/hedgerow/records/Record")) 1 := ⟨(w311 G), (w91 G), (w307 G), (w308 G), (w310 G), (w309 G), (nf_sel (w310 G)), by decide +kernel, lenN pd_33 rfl⟩
abbrev y50 : MethodName := ⟨"com/example/hedgerow/hedgerow/records/Record", "id", "()Ljava/lang/String;"⟩
theorem B45 : BI y50 "com/example/hedgerow/hedgerow/records/Record" "id" := ⟨(plainFor_of_name pn_com_example_hedgerow_hedgerow_records_Record), rfl, rfl⟩
abbrev c45 := prog_9_method_8_code
theorem d45_0 : DC c45 0 (.aload_n 0) 1 := by decide +kernel
theorem d45_1 : DC c45 1 (.getfield 7) 3 := by decide +kernel
theorem d45_4 : DC c45 4 .areturn 1 := by decide +kernel
abbrev M45 := MM y50 c45 1 (some (.object "java/lang/String"))
theorem pd_34 : parseMethodDescriptor "()Ljava/lang/String;" = some ⟨[], (some (.object "java/lang/String"))⟩ := by decide +kernel
def u45 : WS_virtual Z a0 "com/example/hedgerow/hedgerow/records/RecordWithOwnerPinLaw" 42 "com/example/hedgerow/hedgerow/records/Record" y50 y50 c45 1 (some (.object "java/lang/String")) 0 := ⟨(w316 G), (w91 G), (w312 G), (w313 G), (w315 G), (w314 G), (nf_sel (w315 G)), by decide +kernel, lenN pd_34 rfl⟩
abbrev y51 : MethodName := ⟨"com/example/hedgerow/hedgerow/records/Record", "object", "()Ljava/lang/String;"⟩
theorem B46 : BI y51 "com/example/hedgerow/hedgerow/records/Record" "object" := ⟨(plainFor_of_name pn_com_example_hedgerow_hedgerow_records_Record), rfl, rfl⟩
abbrev c46 := prog_9_method_9_code
theorem d46_0 : DC c46 0 (.aload_n 0) 1 := by decide +kernel
theorem d46_1 : DC c46 1 (.getfield 13) 3 := by decide +kernel
theorem d46_4 : DC c46 4 .areturn 1 := by decide +kernel
abbrev M46 := MM y51 c46 1 (some (.object "java/lang/String"))
def u46 : WS_virtual Z a0 "com/example/hedgerow/hedgerow/records/RecordWithOwnerPinLaw" 46 "com/example/hedgerow/hedgerow/records/Record" y51 y51 c46 1 (some (.object "java/lang/String")) 0 := ⟨(w321 G), (w91 G), (w317 G), (w318 G), (w320 G), (w319 G), (nf_sel (w320 G)), by decide +kernel, lenN pd_34 rfl⟩
abbrev y52 : MethodName := ⟨"com/example/hedgerow/hedgerow/records/Record", "owner", "()Ljava/lang/String;"⟩
theorem B47 : BI y52 "com/example/hedgerow/hedgerow/records/Record" "owner" := ⟨(plainFor_of_name pn_com_example_hedgerow_hedgerow_records_Record), rfl, rfl⟩
abbrev c47 := prog_9_method_10_code
theorem d47_0 : DC c47 0 (.aload_n 0) 1 := by decide +kernel
theorem d47_1 : DC c47 1 (.getfield 16) 3 := by decide +kernel
theorem d47_4 : DC c47 4 .areturn 1 := by decide +kernel
abbrev M47 := MM y52 c47 1 (some (.object "java/lang/String"))
def u47 : WS_virtual Z a0 "com/example/hedgerow/hedgerow/records/RecordWithOwnerPinLaw" 49 "com/example/hedgerow/hedgerow/records/Record" y52 y52 c47 1 (some (.object "java/lang/String")) 0 := ⟨(w326 G), (w91 G), (w322 G), (w323 G), (w325 G), (w324 G), (nf_sel (w325 G)), by decide +kernel, lenN pd_34 rfl⟩
theorem ef23 {x0 : Addr} (m : MethodId) : entryFrame m #[(.ref x0), .null] 2 = mkF m 0 #[.val (.ref x0), .val .null] [] := by simp [entryFrame, mkF, argsToLocals, Value.category, maxLocals]
theorem ef24 {x0 : Addr} {x1 : Addr} {x2 : Addr} {x4 : Addr} (m : MethodId) : entryFrame m #[(.ref x0), (.ref x1), (.ref x2), .null, (.ref x4)] 5 = mkF m 0 #[.val (.ref x0), .val (.ref x1), .val (.ref x2), .val .null, .val (.ref x4)] [] := by simp [entryFrame, mkF, argsToLocals, Value.category, maxLocals]
end Words
theorem ltg_dce (G : GL l Z a0 zc dce kdce eed keed mrlh mrum) {n0 : Nat} {h0 : Heap} (O0 : Old Z n0 h0) : n0 > dce := by have q := O0.1; have r : Z.heap.size > dce := (G.2.2.2.2.1).lt; omega
theorem ltg_eed (G : GL l Z a0 zc dce kdce eed keed mrlh mrum) {n0 : Nat} {h0 : Heap} (O0 : Old Z n0 h0) : n0 > eed := by have q := O0.1; have r : Z.heap.size > eed := (G.2.2.2.2.2.2.2.1).lt; omega
variable {h0 : Heap} {n0 : Nat} {pa1 pa10 pa11 pa12 pa13 pa2 pa3 pa4 pa5 pa9 : Addr} {pi1 pi2 pi7 pi8 : Int32} {pk1 pk2 pk4 pk5 pk6 : ClassId} {ps_pa1 : List Value}
def Q0 (Z : State) (h0 : Heap) (v : Option Value) (h : Heap) : Prop := v = some (.int 1)
theorem rm_au0 (G : GL l Z a0 zc dce kdce eed keed mrlh mrum) (F0 : fd0 Z h0 pa1 (.int 0)) : M1 l Z 0 0 0 0 #[.ref pa1] h0 n0 [] (Q0 Z  h0) := by
  refine mi B1 ef1 fun s X0 n0le => ?_
  have := F0.l
  refine oG 3 X0 (w18 G) Via.refl ((sg8 G).ext X0.old.2) d1_0 rfl ?_
  intro _ X2
  refine on 6 X2 d1_3 rfl ((if0 _ _).trans (feq (hzc G)).1) <| oA 7 X2 d1_6 rfl rfl <| oF 10 X2 (w30 G) Via.refl F0 d1_7 rfl ?_
  intro _ X4
  refine on 13 X4 d1_10 rfl ((if0 _ _).trans (teq (by decide)).2) <| oc 14 (v := 1) X4 d1_13 rfl (by decide) <| og 18 X4 d1_14 (by decide) ?_
  exact o_nret (y := (1 : Int32)) (t := .boolean) X4 d1_18 rfl (by decide) (by simp) (by decide) (by decide) rfl
def Q1 (Z : State) (b1 b2 : Int32) (h0 : Heap) (v : Option Value) (h : Heap) : Prop := v = some (.int (((31 : Int32) * ((0 : Int32) + (b1 &&& (255 : Int32)))) + (b2 &&& (255 : Int32))))
theorem rm_au1 (G : GL l Z a0 zc dce kdce eed keed mrlh mrum) (F0 : av0 Z h0 pa1 pk1 2 [.int pi1, .int pi2]) : M4 l Z 0 0 0 0 #[i0, .ref pa1, i0, .int 2] h0 n0 [] (Q1 Z pi1 pi2 h0) := by
  refine mi B4 ef3 fun s X0 n0le => ?_
  have := F0.l
  refine oI 1 X0 d4_0 rfl rfl <| oI 2 X0 d4_1 rfl rfl <| o_iadd 3 (v := 2) X0 d4_2 rfl (by decide) <| oS 5 (l' := #[ii 0, rr pa1, ii 0, ii 2, ii 2, uu]) X0 d4_3 rfl rfl <| oI 6 X0 d4_5 rfl rfl <| oS 8 (l' := #[ii 0, rr pa1, ii 0, ii 2, ii 2, ii 0]) X0 d4_6 rfl rfl <| oi 10 X0 d4_8 rfl rfl <| oi 12 X0 d4_10 rfl rfl <| oN 15 X0 d4_12 rfl (tlt (by decide)).2.1 <| ob 17 (v := 31) X0 d4_15 rfl (by decide) <| oI 18 X0 d4_17 rfl rfl <| o_imul 19 (v := 0) X0 d4_18 rfl (by decide) ?_
  refine oA 20 X0 d4_19 rfl rfl <| oi 22 X0 d4_20 rfl rfl <| oB 23 (v := (.int pi1)) X0 F0 ⟨by decide, by decide⟩ rfl d4_22 rfl <| o_sipush 26 (v := 255) X0 d4_23 rfl (by decide) <| o_iand 27 (v := (pi1 &&& (255 : Int32))) X0 d4_26 rfl rfl <| o_iadd 28 (v := ((0 : Int32) + (pi1 &&& (255 : Int32)))) X0 d4_27 rfl rfl <| oT 29 (l' := #[ii ((0 : Int32) + (pi1 &&& (255 : Int32))), rr pa1, ii 0, ii 2, ii 2, ii 0]) X0 d4_28 rfl rfl <| oJ 32 1 #[ii ((0 : Int32) + (pi1 &&& (255 : Int32))), rr pa1, ii 0, ii 2, ii 2, ii 1] X0 d4_29 rfl rfl (by decide) rfl <| og 8 X0 d4_32 (by decide) <| oi 10 X0 d4_8 rfl rfl <| oi 12 X0 d4_10 rfl rfl <| oN 15 X0 d4_12 rfl (tlt (by decide)).2.1 ?_
  refine ob 17 (v := 31) X0 d4_15 rfl (by decide) <| oI 18 X0 d4_17 rfl rfl <| o_imul 19 (v := ((31 : Int32) * ((0 : Int32) + (pi1 &&& (255 : Int32))))) X0 d4_18 rfl rfl <| oA 20 X0 d4_19 rfl rfl <| oi 22 X0 d4_20 rfl rfl <| oB 23 (v := (.int pi2)) X0 F0 ⟨by decide, by decide⟩ rfl d4_22 rfl <| o_sipush 26 (v := 255) X0 d4_23 rfl (by decide) <| o_iand 27 (v := (pi2 &&& (255 : Int32))) X0 d4_26 rfl rfl <| o_iadd 28 (v := (((31 : Int32) * ((0 : Int32) + (pi1 &&& (255 : Int32)))) + (pi2 &&& (255 : Int32)))) X0 d4_27 rfl rfl <| oT 29 (l' := #[ii (((31 : Int32) * ((0 : Int32) + (pi1 &&& (255 : Int32)))) + (pi2 &&& (255 : Int32))), rr pa1, ii 0, ii 2, ii 2, ii 1]) X0 d4_28 rfl rfl <| oJ 32 2 #[ii (((31 : Int32) * ((0 : Int32) + (pi1 &&& (255 : Int32)))) + (pi2 &&& (255 : Int32))), rr pa1, ii 0, ii 2, ii 2, ii 2] X0 d4_29 rfl rfl (by decide) rfl <| og 8 X0 d4_32 (by decide) ?_
  refine oi 10 X0 d4_8 rfl rfl <| oi 12 X0 d4_10 rfl rfl <| oY 35 X0 d4_12 (by decide) (flt (by decide)).2.1 <| oI 36 X0 d4_35 rfl rfl ?_
  exact o_iret X0 d4_36 rfl (by decide) (by decide) rfl
theorem rm_au2 (G : GL l Z a0 zc dce kdce eed keed mrlh mrum) (F0 : av0 Z h0 pa1 pk1 2 [.int pi1, .int pi2]) (F1 : ex0 Z h0 pa1) : M3 l Z 1 0 0 17 #[.ref pa1, i0, .int 2, i0, .int 4] h0 n0 [] (Q1 Z pi1 pi2 h0) := by
  refine mi B3 ef2 fun s X0 n0le => ?_
  have := F0.l
  refine oi 2 X0 d3_0 rfl rfl <| o_tsw 44 (o := 42) X0 d3_2 (by decide) rfl (by decide) (by decide) <| oI 45 X0 d3_44 rfl rfl <| oA 46 X0 d3_45 rfl rfl <| o_castY 49 X0 (w185 G) (Ins.self F1) d3_46 rfl ?_
  intro _ X2
  refine oI 50 X2 d3_49 rfl rfl <| oI 51 X2 d3_50 rfl rfl <| mS 54 0 X2 (rm_au1 G F0) (u1 G) d3_51 rfl rfl rfl lr (by decide) all0 ?_
  rintro _ _ _ X3 rfl _ _
  refine sk [.int (((31 : Int32) * ((0 : Int32) + (pi1 &&& (255 : Int32)))) + (pi2 &&& (255 : Int32)))] rfl <| og 157 X3 d3_54 (by decide) ?_
  exact o_iret X3 d3_157 rfl (by decide) (by decide) rfl
theorem rm_au3 (G : GL l Z a0 zc dce kdce eed keed mrlh mrum) (F0 : av0 Z h0 pa1 pk1 2 [.int pi1, .int pi2]) (F1 : ex0 Z h0 pa1) : M2 l Z 2 0 0 33 #[.ref pa1] h0 n0 [] (Q1 Z pi1 pi2 h0) := by
  refine mi B2 ef1 fun s X0 n0le => ?_
  have := F0.l
  refine oA 1 X0 d2_0 rfl rfl <| oL 2 X0 F0 d2_1 rfl <| o_lswM 42 X0 d2_2 (by decide) (by decide) (by decide) (by decide) <| oA 43 X0 d2_42 rfl rfl <| oc 44 (v := 0) X0 d2_43 rfl (by decide) <| oA 45 X0 d2_44 rfl rfl <| oL 46 X0 F0 d2_45 rfl <| oc 47 (v := 0) X0 d2_46 rfl (by decide) <| oc 48 (v := 4) X0 d2_47 rfl (by decide) <| mS 51 0 X0 (rm_au2 G F0 F1) (u2 G) d2_48 rfl rfl rfl lr (by decide) all0 ?_
  rintro _ _ _ X1 rfl _ _
  refine sk [.int (((31 : Int32) * ((0 : Int32) + (pi1 &&& (255 : Int32)))) + (pi2 &&& (255 : Int32)))] rfl ?_
  exact o_iret X1 d2_51 rfl (by decide) (by decide) rfl
def Q2 (Z : State) (b1 b2 : Addr) (h0 : Heap) (v : Option Value) (h : Heap) : Prop := ∃ (xi1 : Int32), v = some (.int xi1) ∧ ex1 Z h b1 ∧ fd0 Z h b1 (.int 0) ∧ fd1 Z h b1 (.ref b2)
theorem rm_strHash (G : GL l Z a0 zc dce kdce eed keed mrlh mrum) (F0 : ex1 Z h0 pa1) (F1 : fd0 Z h0 pa1 (.int 0)) (F2 : fd2 Z h0 pa1 (.int 0)) (F3 : fd3 Z h0 pa1 (.int 0)) (F4 : fd1 Z h0 pa1 (.ref pa2)) (F5 : av0 Z h0 pa2 pk1 2 [.int pi1, .int pi2]) (F6 : ex0 Z h0 pa2) (ne : NE pa1 pa2 ∧ n0 ≤ pa1) : M0 l Z 3 0 0 45 #[.ref pa1] h0 n0 [pa1] (Q2 Z pa1 pa2 h0) := by
  refine mi B0 ef0 fun s X0 n0le => ?_
  have := F0.l
  have := F5.l
  refine oA 1 X0 d0_0 rfl rfl <| oF 4 X0 (w168 G) Via.refl F2 d0_1 rfl ?_
  intro _ X2
  refine oT 5 (l' := #[rr pa1, ii 0]) X2 d0_4 rfl rfl <| oI 6 X2 d0_5 rfl rfl <| on 9 X2 d0_6 rfl ((if0 _ _).trans (teq (by decide)).2) <| oA 10 X2 d0_9 rfl rfl <| oF 13 X2 (w170 G) Via.refl F3 d0_10 rfl ?_
  intro _ X4
  refine on 16 X4 d0_13 rfl ((if0 _ _).trans (teq (by decide)).2) <| oA 17 X4 d0_16 rfl rfl <| mV 20 0 X4 F0 (rm_au0 G F1) (u0 G) d0_17 rfl rfl rfl lr (by decide) all0 ?_
  rintro _ _ _ X5 rfl K5 _
  refine sk [.int 1] rfl <| on 23 X5 d0_20 rfl ((if0 _ _).trans (feq (by decide)).1) <| oA 24 X5 d0_23 rfl rfl ?_
  have f6 := F4.k0 K5
  refine oF 27 X5 (w32 G) Via.refl f6 d0_24 rfl ?_
  intro _ X8
  have f9 := F5.k0 K5
  have f10 := F6.keep K5
  refine mS 30 0 X8 (rm_au3 G f9 f10) (u3 G) d0_27 rfl rfl rfl lr (by decide) all0 ?_
  rintro _ _ _ X11 rfl K11 _
  refine sk [.int (((31 : Int32) * ((0 : Int32) + (pi1 &&& (255 : Int32)))) + (pi2 &&& (255 : Int32)))] rfl <| og 40 X11 d0_30 (by decide) <| oT 41 (l' := #[rr pa1, ii (((31 : Int32) * ((0 : Int32) + (pi1 &&& (255 : Int32)))) + (pi2 &&& (255 : Int32)))]) X11 d0_40 rfl rfl <| oI 42 X11 d0_41 rfl rfl ?_
  by_cases hc12 : (((31 : Int32) * ((0 : Int32) + (pi1 &&& (255 : Int32)))) + (pi2 &&& (255 : Int32))) = (0 : Int32)
  · refine on 45 X11 d0_42 rfl ((if0 _ _).trans (teq hc12).2) <| oA 46 X11 d0_45 rfl rfl <| oc 47 (v := 1) X11 d0_46 rfl (by decide) ?_
    have f13 := (F3.k0 K5).k0 K11
    have f14 := (F0.keep K5).keep K11
    refine oP 50 (v' := (.int 1)) X11 (w170 G) Via.refl f13 f14 (Or.inl (w171 G)) (w6 G) fd_0 rfl rfl d0_47 rfl (by omega) (Or.inl (by simp)) ?_
    intro _ _ X15 W15
    have := W15.size
    have := f13.same W15
    refine og 58 X15 d0_50 (by decide) <| oI 59 X15 d0_58 rfl rfl ?_
    have f17 := f14.wr W15
    have f18 := ((F1.k0 K5).k0 K11).other W15 (Or.inr (sn0 G))
    have f19 := (f6.k0 K11).other W15 (Or.inr (sn1 G))
    exact o_iret X15 d0_59 rfl (by decide) (by decide) ⟨(((31 : Int32) * ((0 : Int32) + (pi1 &&& (255 : Int32)))) + (pi2 &&& (255 : Int32))), rfl, f17, f18, f19⟩
  · refine oy 53 X11 d0_42 (by decide) ((if0 _ _).trans (feq hc12).2) <| oA 54 X11 d0_53 rfl rfl <| oI 55 X11 d0_54 rfl rfl ?_
    have f20 := (F2.k0 K5).k0 K11
    have f21 := (F0.keep K5).keep K11
    refine oP 58 (v' := (.int (((31 : Int32) * ((0 : Int32) + (pi1 &&& (255 : Int32)))) + (pi2 &&& (255 : Int32))))) X11 (w168 G) Via.refl f20 f21 (Or.inl (w169 G)) (w6 G) fd_3 rfl rfl d0_55 rfl (by omega) (Or.inl (by simp)) ?_
    intro _ _ X22 W22
    have := W22.size
    have := f20.same W22
    refine oI 59 X22 d0_58 rfl rfl ?_
    have f24 := f21.wr W22
    have f25 := ((F1.k0 K5).k0 K11).other W22 (Or.inr (sn2 G))
    have f26 := (f6.k0 K11).other W22 (Or.inr (sn3 G))
    exact o_iret X22 d0_59 rfl (by decide) (by decide) ⟨(((31 : Int32) * ((0 : Int32) + (pi1 &&& (255 : Int32)))) + (pi2 &&& (255 : Int32))), rfl, f24, f25, f26⟩
def Q3 (Z : State) (b1 : Addr) (b2 : ClassId) (b3 b4 : Int32) (h0 : Heap) (v : Option Value) (h : Heap) : Prop := v = some (.int 2) ∧ av0 Z h b1 b2 2 [.int (b3.toInt8.toInt32), .int (b4.toInt8.toInt32)] ∧ ex0 Z h b1
theorem rm_au4 (G : GL l Z a0 zc dce kdce eed keed mrlh mrum) (F0 : av1 Z h0 pa1 pk1 2 [.int pi1, .int pi2]) (F1 : av0 Z h0 pa2 pk2 2 [i0, i0]) (F2 : ex0 Z h0 pa2) (rg_pi1 : ¬ pi1 < 0 ∧ ¬ (255 : Int32) < pi1) (rg_pi2 : ¬ pi2 < 0 ∧ ¬ (255 : Int32) < pi2) (ne : NE pa1 pa2 ∧ n0 ≤ pa2) : M10 l Z 0 0 0 0 #[.ref pa1, i0, .ref pa2, i0, .int 2] h0 n0 [pa2] (Q3 Z pa2 pk2 pi1 pi2 h0) := by
  refine mi B10 ef9 fun s X0 n0le => ?_
  have := F0.l
  have := F1.l
  refine oc 1 (v := 0) X0 d10_0 rfl (by decide) <| oS 3 (l' := #[rr pa1, ii 0, rr pa2, ii 0, ii 2, ii 0, uu]) X0 d10_1 rfl rfl <| oi 5 X0 d10_3 rfl rfl <| oi 7 X0 d10_5 rfl rfl <| oN 10 X0 d10_7 rfl (tlt (by decide)).2.1 <| oA 11 X0 d10_10 rfl rfl <| oI 12 X0 d10_11 rfl rfl <| oC 13 (v := (.int pi1)) X0 F0 ⟨by decide, by decide⟩ rfl d10_12 rfl <| oS 15 (l' := #[rr pa1, ii 0, rr pa2, ii 0, ii 2, ii 0, ii pi1]) X0 d10_13 rfl rfl <| oi 17 X0 d10_15 rfl rfl <| o_sipush 20 (v := 255) X0 d10_17 rfl (by decide) <| oY 26 X0 d10_20 (by decide) (flt rg_pi1.2).2.2.2 ?_
  refine oA 27 X0 d10_26 rfl rfl <| oI 28 X0 d10_27 rfl rfl <| oi 30 X0 d10_28 rfl rfl <| o_i2b 31 (v := (pi1.toInt8.toInt32)) X0 d10_30 rfl rfl <| sB 32 0 (pi1.toInt8.toInt32) X0 F1 (by decide) (lb rfl) (own_narB _) d10_31 rfl (by omega) (Or.inl (by simp)) ?_
  rintro _ _ X1 ⟨_, _, W1⟩ V1
  have := W1.size
  have V2 := V1.as [.int (pi1.toInt8.toInt32), i0] rfl
  refine oJ 35 1 #[rr pa1, ii 1, rr pa2, ii 0, ii 2, ii 0, ii pi1] X1 d10_32 rfl rfl (by decide) rfl <| oJ 38 1 #[rr pa1, ii 1, rr pa2, ii 1, ii 2, ii 0, ii pi1] X1 d10_35 rfl rfl (by decide) rfl <| oJ 41 1 #[rr pa1, ii 1, rr pa2, ii 1, ii 2, ii 1, ii pi1] X1 d10_38 rfl rfl (by decide) rfl <| og 3 X1 d10_41 (by decide) <| oi 5 X1 d10_3 rfl rfl <| oi 7 X1 d10_5 rfl rfl <| oN 10 X1 d10_7 rfl (tlt (by decide)).2.1 <| oA 11 X1 d10_10 rfl rfl <| oI 12 X1 d10_11 rfl rfl ?_
  have f3 := F0.oth W1 (by omega)
  refine oC 13 (v := (.int pi2)) X1 f3 ⟨by decide, by decide⟩ rfl d10_12 rfl <| oS 15 (l' := #[rr pa1, ii 1, rr pa2, ii 1, ii 2, ii 1, ii pi2]) X1 d10_13 rfl rfl <| oi 17 X1 d10_15 rfl rfl <| o_sipush 20 (v := 255) X1 d10_17 rfl (by decide) <| oY 26 X1 d10_20 (by decide) (flt rg_pi2.2).2.2.2 <| oA 27 X1 d10_26 rfl rfl <| oI 28 X1 d10_27 rfl rfl <| oi 30 X1 d10_28 rfl rfl <| o_i2b 31 (v := (pi2.toInt8.toInt32)) X1 d10_30 rfl rfl <| sB 32 1 (pi2.toInt8.toInt32) X1 V2 (by decide) (lb rfl) (own_narB _) d10_31 rfl (by omega) (Or.inl (by simp)) ?_
  rintro _ _ X4 ⟨_, _, W4⟩ V4
  have := W4.size
  have V5 := V4.as [.int (pi1.toInt8.toInt32), .int (pi2.toInt8.toInt32)] rfl
  refine oJ 35 2 #[rr pa1, ii 2, rr pa2, ii 1, ii 2, ii 1, ii pi2] X4 d10_32 rfl rfl (by decide) rfl <| oJ 38 2 #[rr pa1, ii 2, rr pa2, ii 2, ii 2, ii 1, ii pi2] X4 d10_35 rfl rfl (by decide) rfl <| oJ 41 2 #[rr pa1, ii 2, rr pa2, ii 2, ii 2, ii 2, ii pi2] X4 d10_38 rfl rfl (by decide) rfl <| og 3 X4 d10_41 (by decide) <| oi 5 X4 d10_3 rfl rfl <| oi 7 X4 d10_5 rfl rfl <| oY 44 X4 d10_7 (by decide) (flt (by decide)).2.1 <| oi 46 X4 d10_44 rfl rfl ?_
  have f6 := (F2.wr W1).wr W4
  exact o_iret X4 d10_46 rfl (by decide) (by decide) ⟨rfl, V5, f6⟩
def Q4 (Z : State) (b1 b2 : Int32) (h0 : Heap) (v : Option Value) (h : Heap) : Prop := ∃ (xa1 : Addr) (xk1 : ClassId), v = some (.ref xa1) ∧ av0 Z h xa1 xk1 2 [.int (b1.toInt8.toInt32), .int (b2.toInt8.toInt32)] ∧ ex0 Z h xa1 ∧ h0.size ≤ xa1 ∧ h.size > xa1
theorem rm_au5 (G : GL l Z a0 zc dce kdce eed keed mrlh mrum) (F0 : av1 Z h0 pa1 pk1 2 [.int pi1, .int pi2]) (rg_pi1 : ¬ pi1 < 0 ∧ ¬ (255 : Int32) < pi1) (rg_pi2 : ¬ pi2 < 0 ∧ ¬ (255 : Int32) < pi2) : M9 l Z 1 1 2 18 #[.ref pa1, i0, .int 2] h0 n0 [] (Q4 Z pi1 pi2 h0) := by
  refine mi B9 ef8 fun s X0 n0le => ?_
  have l1 := F0.l
  refine oI 1 X0 d9_0 rfl rfl <| nP (aty := .byte) 3 2 X0 (w23 G) d9_1 rfl (by decide) had_byte ?_
  intro _ h1 b1 k1 X1 _ l1 E1 V1 A1
  have V2 : av0 Z h1 b1 k1 2 [i0, i0] := V1.pad (pad_rep [] (.int (0 : Int32)) 2)
  refine oV 4 (l' := #[rr pa1, ii 0, ii 2, rr b1, uu, uu]) X1 d9_3 rfl rfl rfl <| oA 5 X1 d9_4 rfl rfl <| oI 6 X1 d9_5 rfl rfl <| oA 7 X1 d9_6 rfl rfl <| oc 8 (v := 0) X1 d9_7 rfl (by decide) <| oI 9 X1 d9_8 rfl rfl ?_
  have f3 := F0.ext E1
  refine mS 12 0 X1 (rm_au4 G f3 V2 A1 rg_pi1 rg_pi2 (by omega)) (u4 G) d9_9 rfl rfl rfl lr (by decide) (aR (by omega) all0) ?_
  rintro _ _ _ X4 ⟨rfl, q5, q6⟩ _ _
  refine sk [.int 2] rfl <| oS 14 (l' := #[rr pa1, ii 0, ii 2, rr b1, ii 2, uu]) X4 d9_12 rfl rfl <| oi 16 X4 d9_14 rfl rfl <| oI 17 X4 d9_16 rfl rfl <| oY 57 X4 d9_17 (by decide) (teq (by decide)).1 <| oA 58 X4 d9_57 rfl rfl ?_
  exact oR X4 d9_58 rfl rfl rfl (by decide) (by decide) ⟨b1, k1, rfl, q5, q6, by omega⟩
def Q5 (Z : State) (h0 : Heap) (v : Option Value) (h : Heap) : Prop := v = some (.int 0)
theorem rm_au6 (G : GL l Z a0 zc dce kdce eed keed mrlh mrum) (F0 : av0 Z h0 pa1 pk1 2 ps_pa1) : M11 l Z 0 0 0 0 #[.ref pa1, .int 2] h0 n0 [] (Q5 Z  h0) := by
  refine mi B11 ef10 fun s X0 n0le => ?_
  have := F0.l
  refine oI 1 X0 d11_0 rfl rfl <| oA 2 X0 d11_1 rfl rfl <| oL 3 X0 F0 d11_2 rfl <| o_isub 4 (v := 0) X0 d11_3 rfl (by decide) <| ob 6 (v := 31) X0 d11_4 rfl (by decide) <| o_iushr 7 (v := 0) X0 d11_6 rfl (by decide) <| o_i2b 8 (v := 0) X0 d11_7 rfl (by decide) ?_
  exact o_nret (y := (0 : Int32)) (t := .byte) X0 d11_8 rfl (by decide) (by simp) (by decide) (by decide) rfl
def Q6 (Z : State) (b1 : Addr) (b2 b3 : Int32) (h0 : Heap) (v : Option Value) (h : Heap) : Prop := ∃ (xa1 : Addr) (xk1 : ClassId), v = none ∧ ex1 Z h b1 ∧ fd0 Z h b1 (.int 0) ∧ fd2 Z h b1 (.int 0) ∧ fd3 Z h b1 (.int 0) ∧ fd1 Z h b1 (.ref xa1) ∧ av0 Z h xa1 xk1 2 [.int (b2.toInt8.toInt32), .int (b3.toInt8.toInt32)] ∧ ex0 Z h xa1 ∧ h0.size ≤ xa1 ∧ h.size > xa1
theorem rm_au7 (G : GL l Z a0 zc dce kdce eed keed mrlh mrum) (F0 : ex1 Z h0 pa1) (F1 : fd0 Z h0 pa1 (.int 0)) (F2 : fd2 Z h0 pa1 (.int 0)) (F3 : fd3 Z h0 pa1 (.int 0)) (F4 : fd1 Z h0 pa1 .null) (F5 : av1 Z h0 pa2 pk1 2 [.int pi1, .int pi2]) (rg_pi1 : ¬ pi1 < 0 ∧ ¬ (255 : Int32) < pi1) (rg_pi2 : ¬ pi2 < 0 ∧ ¬ (255 : Int32) < pi2) (ne : NE pa1 pa2 ∧ n0 ≤ pa1) : M8 l Z 2 1 2 35 #[.ref pa1, .ref pa2, i0, .int 2, .null] h0 n0 [pa1] (Q6 Z pa1 pi1 pi2 h0) := by
  refine mi B8 ef7 fun s X0 n0le => ?_
  have := F0.l
  have := F5.l
  refine oA 1 X0 d8_0 rfl rfl <| o_initO 4 (W := 0) X0 (w15 G) (w16 G) (w17 G) rfl (by decide) (Nat.le_of_eq rfl) (by decide) d8_1 rfl ?_
  intro _ X2
  refine oI 5 X2 d8_4 rfl rfl <| oy 27 X2 d8_5 (by decide) ((if0 _ _).trans (feq (by decide)).2) <| oG 30 X2 (w18 G) Via.refl ((sg8 G).ext X2.old.2) d8_27 rfl ?_
  intro _ X4
  refine on 33 X4 d8_30 rfl ((if0 _ _).trans (feq (hzc G)).1) <| oA 34 X4 d8_33 rfl rfl <| oI 35 X4 d8_34 rfl rfl <| oI 36 X4 d8_35 rfl rfl <| mS 39 0 X4 (rm_au5 G F5 rg_pi1 rg_pi2) (u5 G) d8_36 rfl rfl rfl lr (by decide) all0 ?_
  rintro _ _ _ X5 ⟨xa1_6, xk1_7, rfl, q8, q9, _⟩ K5 _
  refine sk [.ref xa1_6] rfl <| oU 41 (l' := #[rr pa1, rr pa2, ii 0, ii 2, .val .null, rr xa1_6]) X5 d8_39 rfl rfl rfl <| oA 42 X5 d8_41 rfl rfl <| oa 44 X5 d8_42 rfl rfl <| oI 45 X5 d8_44 rfl rfl <| mS 48 1 X5 (rm_au6 G q8) (u6 G) d8_45 rfl rfl rfl lr (by decide) all0 ?_
  rintro _ _ _ X11 rfl K11 _
  refine sk [i0, .ref pa1] rfl ?_
  have f12 := (F1.k0 K5).k0 K11
  have f13 := (F0.keep K5).keep K11
  refine oP 51 (v' := (.int 0)) X11 (w30 G) Via.refl f12 f13 (Or.inr ⟨(w31 G), rfl, rfl⟩) (w6 G) fd_1 rfl rfl d8_48 rfl (by omega) (Or.inl (by simp)) ?_
  intro _ _ X14 W14
  have := W14.size
  have f15 := f12.same W14
  refine oA 52 X14 d8_51 rfl rfl <| oa 54 X14 d8_52 rfl rfl ?_
  have f16 := ((F4.k0 K5).k0 K11).other W14 (Or.inr (sn4 G))
  have f17 := f13.wr W14
  refine oP 57 (v' := (.ref xa1_6)) X14 (w32 G) Via.refl f16 f17 (Or.inr ⟨(w33 G), rfl, rfl⟩) (w6 G) fd_2 rfl rfl d8_54 rfl (by omega) (Or.inl (by simp)) ?_
  intro _ _ X18 W18
  have := W18.size
  have f19 := f16.same W18
  have f20 := f17.wr W18
  have f21 := f15.other W18 (Or.inr (sn5 G))
  have f22 := (((F2.k0 K5).k0 K11).other W14 (Or.inr (sn6 G))).other W18 (Or.inr (sn7 G))
  have f23 := (((F3.k0 K5).k0 K11).other W14 (Or.inr (sn8 G))).other W18 (Or.inr (sn9 G))
  have f24 := ((q8.k0 K11).oth W14 (by omega)).oth W18 (by omega)
  have f25 := ((q9.keep K11).wr W14).wr W18
  exact oz X18 d8_57 rfl (by decide) (by decide) ⟨xa1_6, xk1_7, rfl, f20, f21, f22, f23, f19, f24, f25, by omega⟩
theorem rm_au8 (G : GL l Z a0 zc dce kdce eed keed mrlh mrum) (F0 : ex1 Z h0 pa1) (F1 : fd0 Z h0 pa1 (.int 0)) (F2 : fd2 Z h0 pa1 (.int 0)) (F3 : fd3 Z h0 pa1 (.int 0)) (F4 : fd1 Z h0 pa1 .null) (F5 : av1 Z h0 pa2 pk1 2 [.int pi1, .int pi2]) (rg_pi1 : ¬ pi1 < 0 ∧ ¬ (255 : Int32) < pi1) (rg_pi2 : ¬ pi2 < 0 ∧ ¬ (255 : Int32) < pi2) (ne : NE pa1 pa2 ∧ n0 ≤ pa1) : M7 l Z 3 1 2 52 #[.ref pa1, .ref pa2] h0 n0 [pa1] (Q6 Z pa1 pi1 pi2 h0) := by
  refine mi B7 ef6 fun s X0 n0le => ?_
  have := F0.l
  have := F5.l
  refine oA 1 X0 d7_0 rfl rfl <| oA 2 X0 d7_1 rfl rfl <| oc 3 (v := 0) X0 d7_2 rfl (by decide) <| oA 4 X0 d7_3 rfl rfl <| oL 5 X0 F5 d7_4 rfl <| o_aconstNull 6 X0 d7_5 rfl <| mP 9 0 X0 (rm_au7 G F0 F1 F2 F3 F4 F5 rg_pi1 rg_pi2 (by omega)) (u7 G) d7_6 rfl rfl rfl lr (by decide) (aI (by omega) (by simp) all0) ?_
  rintro _ _ _ X1 ⟨xa1_2, xk1_3, rfl, q4, q5, q6, q7, q8, q9, q10, _⟩ _ _
  refine sk [] rfl ?_
  exact oz X1 d7_9 rfl (by decide) (by decide) ⟨xa1_2, xk1_3, rfl, q4, q5, q6, q7, q8, q9, q10, by omega⟩
def Q7 (Z : State) (h0 : Heap) (v : Option Value) (h : Heap) : Prop := ∃ (xa1 : Addr) (xa2 : Addr) (xk1 : ClassId) (xi1 : Int32) (xi2 : Int32), v = some (.ref xa1) ∧ ex1 Z h xa1 ∧ fd0 Z h xa1 (.int 0) ∧ fd2 Z h xa1 (.int 0) ∧ fd3 Z h xa1 (.int 0) ∧ fd1 Z h xa1 (.ref xa2) ∧ av0 Z h xa2 xk1 2 [.int xi1, .int xi2] ∧ ex0 Z h xa2 ∧ h0.size ≤ xa1 ∧ h.size > xa1 ∧ h0.size ≤ xa2 ∧ h.size > xa2 ∧ NE xa1 xa2
theorem rm_au9 (G : GL l Z a0 zc dce kdce eed keed mrlh mrum)  : M6 l Z 4 3 8 66 #[.int pi1] h0 n0 [] (Q7 Z  h0) := by
  refine mi B6 ef5 fun s X0 n0le => ?_
  refine oc 1 (v := 2) X0 d6_0 rfl (by decide) <| nP (aty := .char) 3 2 X0 (w4 G) d6_1 rfl (by decide) had_char ?_
  intro _ h1 b1 k1 X1 _ _ _ V1 _
  have V2 : av1 Z h1 b1 k1 2 [i0, i0] := V1.pad (pad_rep [] (.int (0 : Int32)) 2)
  refine oV 4 (l' := #[ii pi1, rr b1]) X1 d6_3 rfl rfl rfl <| oA 5 X1 d6_4 rfl rfl <| oc 6 (v := 0) X1 d6_5 rfl (by decide) <| oI 7 X1 d6_6 rfl rfl <| o_sipush 10 (v := 255) X1 d6_7 rfl (by decide) <| o_iand 11 (v := (pi1 &&& (255 : Int32))) X1 d6_10 rfl rfl ?_
  obtain ⟨c3, ce4⟩ : ∃ z : Int32, (pi1 &&& (255 : Int32)).toUInt32.toUInt16.toUInt32.toInt32 = z := ⟨_, rfl⟩
  have cr5 := own_c255 _ _ ce4
  refine o_i2c 12 (v := c3) X1 d6_11 rfl ce4 <| sC 13 0 c3 X1 V2 (by decide) (lb rfl) (own_narC cr5) d6_12 rfl (by omega) (Or.inr (by omega)) ?_
  rintro _ _ X6 ⟨_, _, W6⟩ V6
  have := W6.size
  have V7 := V6.as [.int c3, i0] rfl
  refine oA 14 X6 d6_13 rfl rfl <| oc 15 (v := 1) X6 d6_14 rfl (by decide) <| oI 16 X6 d6_15 rfl rfl <| ob 18 (v := 8) X6 d6_16 rfl (by decide) <| o_iushr 19 (v := ((pi1.toUInt32 >>> ((8 : Int32) &&& 31).toUInt32).toInt32)) X6 d6_18 rfl rfl <| o_sipush 22 (v := 255) X6 d6_19 rfl (by decide) <| o_iand 23 (v := (((pi1.toUInt32 >>> ((8 : Int32) &&& 31).toUInt32).toInt32) &&& (255 : Int32))) X6 d6_22 rfl rfl ?_
  obtain ⟨c8, ce9⟩ : ∃ z : Int32, (((pi1.toUInt32 >>> ((8 : Int32) &&& 31).toUInt32).toInt32) &&& (255 : Int32)).toUInt32.toUInt16.toUInt32.toInt32 = z := ⟨_, rfl⟩
  have cr10 := own_c255 _ _ ce9
  refine o_i2c 24 (v := c8) X6 d6_23 rfl ce9 <| sC 25 1 c8 X6 V7 (by decide) (lb rfl) (own_narC cr10) d6_24 rfl (by omega) (Or.inr (by omega)) ?_
  rintro _ _ X11 ⟨_, _, W11⟩ V11
  have := W11.size
  have V12 := V11.as [.int c3, .int c8] rfl
  refine o_new 28 X11 (w5 G) (w6 G) (w7 G) d6_25 rfl (by decide) (by decide) ?_
  intro _ h13 b13 X13 _ _ E13 A13 D13 _
  have f14 : fd0 Z h13 b13 (.int 0) := D13 (Or.inr (w31 G)) fd_1
  have f15 : fd1 Z h13 b13 .null := D13 (Or.inr (w33 G)) fd_2
  have f16 : fd2 Z h13 b13 (.int 0) := D13 (Or.inl (w169 G)) fd_3
  have f17 : fd3 Z h13 b13 (.int 0) := D13 (Or.inl (w171 G)) fd_0
  refine oD 29 X13 d6_28 rfl rfl <| oA 30 X13 d6_29 rfl rfl ?_
  have f18 := V12.ext E13
  refine mP 33 1 X13 (rm_au8 G A13 f14 f16 f17 f15 f18 cr5 cr10 (by omega)) (u8 G) d6_30 rfl rfl rfl lr (by decide) (aR (by omega) all0) ?_
  rintro _ _ _ X19 ⟨xa1_20, xk1_21, rfl, q22, q23, q24, q25, q26, q27, q28, _⟩ _ _
  refine sk [.ref b13] rfl ?_
  exact oR X19 d6_33 rfl rfl rfl (by decide) (by decide) ⟨b13, xa1_20, xk1_21, (c3.toInt8.toInt32), (c8.toInt8.toInt32), rfl, q22, q23, q24, q25, q26, q27, q28, by omega⟩
def Q8 (Z : State) (h0 : Heap) (v : Option Value) (h : Heap) : Prop := v = none
theorem rm_au10 (G : GL l Z a0 zc dce kdce eed keed mrlh mrum)  : M14 l Z 1 0 0 12 #[.ref pa1] h0 n0 [] (Q8 Z  h0) := by
  refine mi B14 ef1 fun s X0 n0le => ?_
  refine oA 1 X0 d14_0 rfl rfl <| o_initO 4 (W := 0) X0 (w52 G) (w16 G) (w17 G) rfl (by decide) (Nat.le_of_eq rfl) (by decide) d14_1 rfl ?_
  intro _ X2
  exact oz X2 d14_4 rfl (by decide) (by decide) rfl
def Q9 (Z : State) (b1 : Addr) (h0 : Heap) (v : Option Value) (h : Heap) : Prop := v = none ∧ ex2 Z h b1 ∧ fd5 Z h b1 .null ∧ fd4 Z h b1 (.int 0) ∧ fd6 Z h b1 (.int 0)
theorem rm_au11 (G : GL l Z a0 zc dce kdce eed keed mrlh mrum) (F0 : ex2 Z h0 pa1) (F1 : fd5 Z h0 pa1 .null) (F2 : fd4 Z h0 pa1 (.int 0)) (F3 : fd6 Z h0 pa1 (.int 0)) (ne : n0 ≤ pa1) : M13 l Z 2 0 0 24 #[.ref pa1] h0 n0 [pa1] (Q9 Z pa1 h0) := by
  refine mi B13 ef1 fun s X0 n0le => ?_
  have := F0.l
  refine oA 1 X0 d13_0 rfl rfl <| mP 4 0 X0 (rm_au10 G ) (u10 G) d13_1 rfl rfl rfl lr (by decide) all0 ?_
  rintro _ _ _ X1 rfl K1 _
  refine sk [] rfl <| oA 5 X1 d13_4 rfl rfl <| oc 6 (v := 0) X1 d13_5 rfl (by decide) ?_
  have f2 := F2.k0 K1
  have f3 := F0.keep K1
  refine oP 9 (v' := (.int 0)) X1 (w53 G) Via.refl f2 f3 (Or.inl (w54 G)) (w35 G) fd_3 rfl rfl d13_6 rfl (by omega) (Or.inl (by simp)) ?_
  intro _ _ X4 W4
  have := W4.size
  have f5 := f2.same W4
  have f6 := f3.wr W4
  have f7 := (F1.k0 K1).other W4 (Or.inr (sn10 G))
  have f8 := (F3.k0 K1).other W4 (Or.inr (sn11 G))
  exact oz X4 d13_9 rfl (by decide) (by decide) ⟨rfl, f6, f7, f5, f8⟩
def Q10 (Z : State) (b1 b2 : Addr) (h0 : Heap) (v : Option Value) (h : Heap) : Prop := v = none ∧ ex2 Z h b1 ∧ fd5 Z h b1 (.ref b2) ∧ fd4 Z h b1 (.int 0) ∧ fd6 Z h b1 (.int 0)
theorem rm_au12 (G : GL l Z a0 zc dce kdce eed keed mrlh mrum) (F0 : ex2 Z h0 pa1) (F1 : fd5 Z h0 pa1 .null) (F2 : fd4 Z h0 pa1 (.int 0)) (F3 : fd6 Z h0 pa1 (.int 0)) (ne : n0 ≤ pa1) : M12 l Z 3 0 0 36 #[.ref pa1] h0 n0 [pa1] (Q10 Z pa1 dce h0) := by
  refine mi B12 ef1 fun s X0 n0le => ?_
  have := F0.l
  refine oA 1 X0 d12_0 rfl rfl <| mP 4 0 X0 (rm_au11 G F0 F1 F2 F3 (by omega)) (u11 G) d12_1 rfl rfl rfl lr (by decide) (aI (by omega) (by simp) all0) ?_
  rintro _ _ _ X1 ⟨rfl, q2, q3, q4, q5⟩ _ _
  refine sk [] rfl <| oA 5 X1 d12_4 rfl rfl <| oG 8 X1 (w55 G) Via.refl ((sg6 G).ext X1.old.2) d12_5 rfl ?_
  intro _ X7
  refine oP 11 (v' := (.ref dce)) X7 (w56 G) Via.refl q3 q2 (Or.inl (w57 G)) (w35 G) fd_4 rfl rfl d12_8 rfl (by omega) (Or.inl (by simp)) ?_
  intro _ _ X8 W8
  have := W8.size
  have f9 := q3.same W8
  have f10 := q2.wr W8
  have f11 := q4.other W8 (Or.inr (sn12 G))
  have f12 := q5.other W8 (Or.inr (sn13 G))
  exact oz X8 d12_11 rfl (by decide) (by decide) ⟨rfl, f10, f9, f11, f12⟩
def Q11 (Z : State) (h0 : Heap) (v : Option Value) (h : Heap) : Prop := v = some (.int 10)
theorem rm_au13 (G : GL l Z a0 zc dce kdce eed keed mrlh mrum)  : M19 l Z 0 0 0 0 #[.int 10, .int 1] h0 n0 [] (Q11 Z  h0) := by
  refine mi B19 ef13 fun s X0 n0le => ?_
  refine oI 1 X0 d19_0 rfl rfl <| oI 2 X0 d19_1 rfl rfl <| oN 5 X0 d19_2 rfl (flt (by decide)).1 <| oI 6 X0 d19_5 rfl rfl <| og 10 X0 d19_6 (by decide) ?_
  exact o_iret X0 d19_10 rfl (by decide) (by decide) rfl
def Q12 (Z : State) (b1 : Addr) (h0 : Heap) (v : Option Value) (h : Heap) : Prop := ∃ (xa1 : Addr) (xk1 : ClassId), v = some (.ref xa1) ∧ ex2 Z h b1 ∧ fd5 Z h b1 (.ref xa1) ∧ fd4 Z h b1 (.int 1) ∧ fd6 Z h b1 (.int 0) ∧ av2 Z h xa1 xk1 10 [.null, .null, .null, .null, .null, .null, .null, .null, .null, .null] ∧ ex3 Z h xa1 ∧ Ovr Z xk1 "java/lang/Object" ∧ h0.size ≤ xa1 ∧ h.size > xa1
theorem rm_au14 (G : GL l Z a0 zc dce kdce eed keed mrlh mrum) (F0 : ex2 Z h0 pa1) (F1 : fd5 Z h0 pa1 (.ref dce)) (F2 : fd4 Z h0 pa1 (.int 1)) (F3 : fd6 Z h0 pa1 (.int 0)) (ne : n0 ≤ pa1) : M18 l Z 1 1 10 14 #[.ref pa1, .int 1] h0 n0 [pa1] (Q12 Z pa1 h0) := by
  refine mi B18 ef12 fun s X0 n0le => ?_
  have := F0.l
  refine oA 1 X0 d18_0 rfl rfl <| oF 4 X0 (w56 G) Via.refl F1 d18_1 rfl ?_
  intro _ X2
  have f3 := (sg0 G).ext X2.old.2
  refine oL 5 X2 f3 d18_4 rfl <| oT 6 (l' := #[rr pa1, ii 1, ii 0, uu]) X2 d18_5 rfl rfl <| oI 7 X2 d18_6 rfl rfl <| on 10 X2 d18_7 rfl ((if0 _ _).trans (flt (by decide)).2.2.1) <| oA 11 X2 d18_10 rfl rfl <| oF 14 X2 (w56 G) Via.refl F1 d18_11 rfl ?_
  intro _ X5
  refine oG 17 X5 (w55 G) Via.refl ((sg6 G).ext X5.old.2) d18_14 rfl ?_
  intro _ X7
  refine o_acmp 45 (same := true) X7 d18_17 rfl rfl (decide_eq_true rfl) (by decide) (by decide) <| oA 46 X7 d18_45 rfl rfl <| ob 48 (v := 10) X7 d18_46 rfl (by decide) <| oI 49 X7 d18_48 rfl rfl <| mS 52 1 X7 (rm_au13 G ) (u13 G) d18_49 rfl rfl rfl lr (by decide) all0 ?_
  rintro _ _ _ X8 rfl K8 _
  refine sk [.int 10, .ref pa1] rfl <| o_newR 55 (cap := 10) X8 (w86 G) (w87 G) d18_52 rfl (by decide) (by decide) (by decide) (by decide) (by decide) (ad := "[Ljava/lang/Object;") (by decide +kernel) ?_
  intro _ h9 b9 k9 X9 _ _ E9 V9 O9 A9
  have V10 : av2 Z h9 b9 k9 10 [.null, .null, .null, .null, .null, .null, .null, .null, .null, .null] := V9.pad (pad_rep [] .null 10)
  refine o_dupX1 56 X9 d18_55 rfl rfl rfl ?_
  have f11 := (F1.k0 K8).ext E9
  have f12 := (F0.keep K8).ext E9
  refine oP 59 (v' := (.ref b9)) X9 (w56 G) Via.refl f11 f12 (Or.inl (w57 G)) (w35 G) fd_4 rfl rfl d18_56 rfl (by omega) (Or.inl (by simp)) ?_
  intro _ _ X13 W13
  have := W13.size
  have f14 := f11.same W13
  have f15 := f12.wr W13
  have f16 := ((F2.k0 K8).ext E9).other W13 (Or.inr (sn12 G))
  have f17 := ((F3.k0 K8).ext E9).other W13 (Or.inr (sn13 G))
  have f18 := V10.oth W13 (by omega)
  have f19 := A9.wr W13
  exact oR X13 d18_59 rfl rfl rfl (by decide) (by decide) ⟨b9, k9, rfl, f15, f14, f16, f17, f18, f19, O9, by omega⟩
theorem rm_au15 (G : GL l Z a0 zc dce kdce eed keed mrlh mrum) (F0 : ex2 Z h0 pa1) (F1 : fd5 Z h0 pa1 (.ref dce)) (F2 : fd4 Z h0 pa1 (.int 1)) (F3 : fd6 Z h0 pa1 (.int 0)) (ne : n0 ≤ pa1) : M17 l Z 2 1 10 29 #[.ref pa1] h0 n0 [pa1] (Q12 Z pa1 h0) := by
  refine mi B17 ef1 fun s X0 n0le => ?_
  have := F0.l
  refine oA 1 X0 d17_0 rfl rfl <| oA 2 X0 d17_1 rfl rfl <| oF 5 X0 (w65 G) Via.refl F3 d17_2 rfl ?_
  intro _ X2
  refine oc 6 (v := 1) X2 d17_5 rfl (by decide) <| o_iadd 7 (v := 1) X2 d17_6 rfl (by decide) <| mV 10 0 X2 F0 (rm_au14 G F0 F1 F2 F3 (by omega)) (u14 G) d17_7 rfl rfl rfl lr (by decide) (aI (by omega) (by simp) all0) ?_
  rintro _ _ _ X3 ⟨xa1_4, xk1_5, rfl, q6, q7, q8, q9, q10, q11, q12, _⟩ _ _
  refine sk [.ref xa1_4] rfl ?_
  exact oR X3 d17_10 rfl rfl rfl (by decide) (by decide) ⟨xa1_4, xk1_5, rfl, q6, q7, q8, q9, q10, q11, q12, by omega⟩
def Q13 (Z : State) (b1 b2 : Addr) (h0 : Heap) (v : Option Value) (h : Heap) : Prop := ∃ (xa1 : Addr) (xk1 : ClassId), v = none ∧ ex2 Z h b1 ∧ fd5 Z h b1 (.ref xa1) ∧ fd4 Z h b1 (.int 1) ∧ fd6 Z h b1 (.int 1) ∧ av2 Z h xa1 xk1 10 [.ref b2, .null, .null, .null, .null, .null, .null, .null, .null, .null] ∧ ex3 Z h xa1 ∧ Ovr Z xk1 "java/lang/Object" ∧ h0.size ≤ xa1 ∧ h.size > xa1
theorem rm_au16 (G : GL l Z a0 zc dce kdce eed keed mrlh mrum) (F0 : ex2 Z h0 pa1) (F1 : fd5 Z h0 pa1 (.ref dce)) (F2 : fd4 Z h0 pa1 (.int 1)) (F3 : fd6 Z h0 pa1 (.int 0)) (F4 : ex1 Z h0 pa2) (ne : NE pa1 pa2 ∧ n0 ≤ pa1) : M16 l Z 3 1 10 41 #[.ref pa1, .ref pa2, .ref dce, i0] h0 n0 [pa1] (Q13 Z pa1 pa2 h0) := by
  refine mi B16 ef11 fun s X0 n0le => ?_
  have := F0.l
  have := F4.l
  refine oI 1 X0 d16_0 rfl rfl <| oA 2 X0 d16_1 rfl rfl ?_
  have f1 := (sg0 G).ext X0.old.2
  refine oL 3 X0 f1 d16_2 rfl <| oN 6 X0 d16_3 rfl (teq (by decide)).2 <| oA 7 X0 d16_6 rfl rfl <| mV 10 0 X0 F0 (rm_au15 G F0 F1 F2 F3 (by omega)) (u15 G) d16_7 rfl rfl rfl lr (by decide) (aI (by omega) (by simp) all0) ?_
  rintro _ _ _ X2 ⟨xa1_3, xk1_4, rfl, q5, q6, q7, q8, q9, q10, q11, _⟩ K2 _
  refine sk [.ref xa1_3] rfl <| oV 11 (l' := #[rr pa1, rr pa2, rr xa1_3, ii 0]) X2 d16_10 rfl rfl rfl <| oA 12 X2 d16_11 rfl rfl <| oI 13 X2 d16_12 rfl rfl <| oA 14 X2 d16_13 rfl rfl ?_
  have f14 := F4.keep K2
  refine o_stR 15 (i := 0) X2 q9 rfl (own_sto q9 q11 f14 (w88 G)) rfl ⟨by decide, by decide⟩ (by decide) (by decide) d16_14 rfl (by omega) (Or.inr (by omega)) ?_
  rintro _ _ X13 ⟨_, _, W13⟩ V13
  have := W13.size
  have V15 := V13.as [.ref pa2, .null, .null, .null, .null, .null, .null, .null, .null, .null] rfl
  refine oA 16 X13 d16_15 rfl rfl <| oI 17 X13 d16_16 rfl rfl <| oc 18 (v := 1) X13 d16_17 rfl (by decide) <| o_iadd 19 (v := 1) X13 d16_18 rfl (by decide) ?_
  have f16 := q8.oth W13 (by omega)
  have f17 := q5.wr W13
  refine oP 22 (v' := (.int 1)) X13 (w65 G) Via.refl f16 f17 (Or.inl (w66 G)) (w35 G) fd_3 rfl rfl d16_19 rfl (by omega) (Or.inl (by simp)) ?_
  intro _ _ X18 W18
  have := W18.size
  have f19 := f16.same W18
  have f20 := f17.wr W18
  have f21 := (q6.oth W13 (by omega)).other W18 (Or.inr (sn14 G))
  have f22 := (q7.oth W13 (by omega)).other W18 (Or.inr (sn15 G))
  have f23 := V15.oth W18 (by omega)
  have f24 := (q10.wr W13).wr W18
  exact oz X18 d16_22 rfl (by decide) (by decide) ⟨xa1_3, xk1_4, rfl, f20, f21, f22, f19, f23, f24, q11, by omega⟩
def Q14 (Z : State) (b1 b2 : Addr) (h0 : Heap) (v : Option Value) (h : Heap) : Prop := ∃ (xa1 : Addr) (xk1 : ClassId), v = some (.int 1) ∧ ex2 Z h b1 ∧ fd5 Z h b1 (.ref xa1) ∧ fd4 Z h b1 (.int 1) ∧ fd6 Z h b1 (.int 1) ∧ av2 Z h xa1 xk1 10 [.ref b2, .null, .null, .null, .null, .null, .null, .null, .null, .null] ∧ ex3 Z h xa1 ∧ Ovr Z xk1 "java/lang/Object" ∧ h0.size ≤ xa1 ∧ h.size > xa1
theorem rm_au17 (G : GL l Z a0 zc dce kdce eed keed mrlh mrum) (F0 : ex2 Z h0 pa1) (F1 : fd5 Z h0 pa1 (.ref dce)) (F2 : fd4 Z h0 pa1 (.int 0)) (F3 : fd6 Z h0 pa1 (.int 0)) (F4 : ex1 Z h0 pa2) (ne : NE pa1 pa2 ∧ n0 ≤ pa1) : M15 l Z 4 1 10 56 #[.ref pa1, .ref pa2] h0 n0 [pa1] (Q14 Z pa1 pa2 h0) := by
  refine mi B15 ef6 fun s X0 n0le => ?_
  have := F0.l
  have := F4.l
  refine oA 1 X0 d15_0 rfl rfl <| oD 2 X0 d15_1 rfl rfl <| oF 5 X0 (w63 G) (Via.of (w64 G)) F2 d15_2 rfl ?_
  intro _ X2
  refine oc 6 (v := 1) X2 d15_5 rfl (by decide) <| o_iadd 7 (v := 1) X2 d15_6 rfl (by decide) <| oP 10 (v' := (.int 1)) X2 (w63 G) (Via.of (w64 G)) F2 F0 (Or.inl (w54 G)) (w35 G) fd_3 rfl rfl d15_7 rfl (by omega) (Or.inl (by simp)) ?_
  intro _ _ X3 W3
  have := W3.size
  have f4 := F2.same W3
  refine oA 11 X3 d15_10 rfl rfl <| oA 12 X3 d15_11 rfl rfl <| oA 13 X3 d15_12 rfl rfl ?_
  have f5 := F1.other W3 (Or.inr (sn10 G))
  refine oF 16 X3 (w56 G) Via.refl f5 d15_13 rfl ?_
  intro _ X7
  refine oA 17 X7 d15_16 rfl rfl ?_
  have f8 := F3.other W3 (Or.inr (sn11 G))
  refine oF 20 X7 (w65 G) Via.refl f8 d15_17 rfl ?_
  intro _ X10
  have f11 := F0.wr W3
  have f12 := F4.wr W3
  refine mV 23 0 X10 f11 (rm_au16 G f11 f5 f4 f8 f12 (by omega)) (u16 G) d15_20 rfl rfl rfl lr (by decide) (aI (by omega) (by simp) all0) ?_
  rintro _ _ _ X13 ⟨xa1_14, xk1_15, rfl, q16, q17, q18, q19, q20, q21, q22, _⟩ _ _
  refine sk [] rfl <| oc 24 (v := 1) X13 d15_23 rfl (by decide) ?_
  exact o_nret (y := (1 : Int32)) (t := .boolean) X13 d15_24 rfl (by decide) (by simp) (by decide) (by decide) ⟨xa1_14, xk1_15, rfl, q16, q17, q18, q19, q20, q21, q22, by omega⟩
theorem rm_au18 (G : GL l Z a0 zc dce kdce eed keed mrlh mrum)  : M23 l Z 1 0 0 12 #[.ref pa1] h0 n0 [] (Q8 Z  h0) := by
  refine mi B23 ef1 fun s X0 n0le => ?_
  refine oA 1 X0 d23_0 rfl rfl <| o_initO 4 (W := 0) X0 (w111 G) (w16 G) (w17 G) rfl (by decide) (Nat.le_of_eq rfl) (by decide) d23_1 rfl ?_
  intro _ X2
  exact oz X2 d23_4 rfl (by decide) (by decide) rfl
def Q15 (Z : State) (b1 : Addr) (h0 : Heap) (v : Option Value) (h : Heap) : Prop := v = none ∧ ex4 Z h b1 ∧ fd9 Z h b1 (.int 0) ∧ fd13 Z h b1 .null ∧ fd7 Z h b1 (.float 1061158912) ∧ fd14 Z h b1 (.int 0) ∧ fd8 Z h b1 (.int 0) ∧ fd15 Z h b1 (.int 0) ∧ fd10 Z h b1 .null ∧ fd12 Z h b1 .null ∧ fd11 Z h b1 (.int 0)
theorem rm_au19 (G : GL l Z a0 zc dce kdce eed keed mrlh mrum) (F0 : ex4 Z h0 pa1) (F1 : fd9 Z h0 pa1 (.int 0)) (F2 : fd13 Z h0 pa1 .null) (F3 : fd7 Z h0 pa1 (.float 0)) (F4 : fd14 Z h0 pa1 (.int 0)) (F5 : fd8 Z h0 pa1 (.int 0)) (F6 : fd15 Z h0 pa1 (.int 0)) (F7 : fd10 Z h0 pa1 .null) (F8 : fd12 Z h0 pa1 .null) (F9 : fd11 Z h0 pa1 (.int 0)) (ne : n0 ≤ pa1) : M22 l Z 2 0 0 24 #[.ref pa1] h0 n0 [pa1] (Q15 Z pa1 h0) := by
  refine mi B22 ef1 fun s X0 n0le => ?_
  have := F0.l
  refine oA 1 X0 d22_0 rfl rfl <| mP 4 0 X0 (rm_au18 G ) (u18 G) d22_1 rfl rfl rfl lr (by decide) all0 ?_
  rintro _ _ _ X1 rfl K1 _
  refine sk [] rfl <| oA 5 X1 d22_4 rfl rfl <| o_ldcF 7 (v := 1061158912) X1 (w112 G) d22_5 rfl ?_
  have f2 := F3.k0 K1
  have f3 := F0.keep K1
  refine oP 10 (v' := (.float 1061158912)) X1 (w113 G) Via.refl f2 f3 (Or.inr ⟨(w114 G), rfl, rfl⟩) (w94 G) fd_5 rfl rfl d22_7 rfl (by omega) (Or.inl (by simp)) ?_
  intro _ _ X4 W4
  have := W4.size
  have f5 := f2.same W4
  have f6 := f3.wr W4
  have f7 := (F1.k0 K1).other W4 (Or.inr (sn16 G))
  have f8 := (F2.k0 K1).other W4 (Or.inr (sn17 G))
  have f9 := (F4.k0 K1).other W4 (Or.inr (sn18 G))
  have f10 := (F5.k0 K1).other W4 (Or.inr (sn19 G))
  have f11 := (F6.k0 K1).other W4 (Or.inr (sn20 G))
  have f12 := (F7.k0 K1).other W4 (Or.inr (sn21 G))
  have f13 := (F8.k0 K1).other W4 (Or.inr (sn22 G))
  have f14 := (F9.k0 K1).other W4 (Or.inr (sn23 G))
  exact oz X4 d22_10 rfl (by decide) (by decide) ⟨rfl, f6, f7, f8, f5, f9, f10, f11, f12, f13, f14⟩
theorem rm_au20 (G : GL l Z a0 zc dce kdce eed keed mrlh mrum) (F0 : ex4 Z h0 pa1) (F1 : fd9 Z h0 pa1 (.int 0)) (F2 : fd13 Z h0 pa1 .null) (F3 : fd7 Z h0 pa1 (.float 0)) (F4 : fd14 Z h0 pa1 (.int 0)) (F5 : fd8 Z h0 pa1 (.int 0)) (F6 : fd15 Z h0 pa1 (.int 0)) (F7 : fd10 Z h0 pa1 .null) (F8 : fd12 Z h0 pa1 .null) (F9 : fd11 Z h0 pa1 (.int 0)) (ne : n0 ≤ pa1) : M21 l Z 3 0 0 36 #[.ref pa1] h0 n0 [pa1] (Q15 Z pa1 h0) := by
  refine mi B21 ef1 fun s X0 n0le => ?_
  have := F0.l
  refine oA 1 X0 d21_0 rfl rfl <| mP 4 0 X0 (rm_au19 G F0 F1 F2 F3 F4 F5 F6 F7 F8 F9 (by omega)) (u19 G) d21_1 rfl rfl rfl lr (by decide) (aI (by omega) (by simp) all0) ?_
  rintro _ _ _ X1 ⟨rfl, q2, q3, q4, q5, q6, q7, q8, q9, q10, q11⟩ _ _
  refine sk [] rfl <| oA 5 X1 d21_4 rfl rfl <| oc 6 (v := 0) X1 d21_5 rfl (by decide) <| oP 9 (v' := (.int 0)) X1 (w115 G) Via.refl q7 q2 (Or.inl (w116 G)) (w94 G) fd_3 rfl rfl d21_6 rfl (by omega) (Or.inl (by simp)) ?_
  intro _ _ X12 W12
  have := W12.size
  have f13 := q7.same W12
  refine oA 10 X12 d21_9 rfl rfl <| oc 11 (v := 0) X12 d21_10 rfl (by decide) ?_
  have f14 := q3.other W12 (Or.inr (sn24 G))
  have f15 := q2.wr W12
  refine oP 14 (v' := (.int 0)) X12 (w117 G) Via.refl f14 f15 (Or.inr ⟨(w118 G), rfl, rfl⟩) (w94 G) fd_0 rfl rfl d21_11 rfl (by omega) (Or.inl (by simp)) ?_
  intro _ _ X16 W16
  have := W16.size
  have f17 := f14.same W16
  have f18 := f15.wr W16
  have f19 := (q4.other W12 (Or.inr (sn25 G))).other W16 (Or.inr (sn26 G))
  have f20 := (q5.other W12 (Or.inr (sn27 G))).other W16 (Or.inr (sn28 G))
  have f21 := (q6.other W12 (Or.inr (sn29 G))).other W16 (Or.inr (sn30 G))
  have f22 := f13.other W16 (Or.inr (sn31 G))
  have f23 := (q8.other W12 (Or.inr (sn32 G))).other W16 (Or.inr (sn33 G))
  have f24 := (q9.other W12 (Or.inr (sn34 G))).other W16 (Or.inr (sn35 G))
  have f25 := (q10.other W12 (Or.inr (sn36 G))).other W16 (Or.inr (sn37 G))
  have f26 := (q11.other W12 (Or.inr (sn38 G))).other W16 (Or.inr (sn39 G))
  exact oz X16 d21_14 rfl (by decide) (by decide) ⟨rfl, f18, f17, f19, f20, f21, f22, f23, f24, f25, f26⟩
theorem rm_au21 (G : GL l Z a0 zc dce kdce eed keed mrlh mrum) (F0 : fd6 Z h0 pa1 (.int 1)) : M24 l Z 0 0 0 0 #[.ref pa1] h0 n0 [] (Q0 Z  h0) := by
  refine mi B24 ef1 fun s X0 n0le => ?_
  have := F0.l
  refine oA 1 X0 d24_0 rfl rfl <| oF 4 X0 (w65 G) Via.refl F0 d24_1 rfl ?_
  intro _ X2
  exact o_iret X2 d24_4 rfl (by decide) (by decide) rfl
theorem rm_au22 (G : GL l Z a0 zc dce kdce eed keed mrlh mrum)  : M27 l Z 0 0 0 0 #[i0, .int 1, .null] h0 n0 [] (Q5 Z  h0) := by
  refine mi B27 ef15 fun s X0 n0le => ?_
  refine oI 1 X0 d27_0 rfl rfl <| on 4 X0 d27_1 rfl ((if0 _ _).trans (flt (by decide)).1) <| oI 5 X0 d27_4 rfl rfl <| oI 6 X0 d27_5 rfl rfl <| oY 16 X0 d27_6 (by decide) (tlt (by decide)).1 <| oI 17 X0 d27_16 rfl rfl ?_
  exact o_iret X0 d27_17 rfl (by decide) (by decide) rfl
theorem rm_au23 (G : GL l Z a0 zc dce kdce eed keed mrlh mrum)  : M26 l Z 1 0 0 14 #[i0, .int 1] h0 n0 [] (Q5 Z  h0) := by
  refine mi B26 ef13 fun s X0 n0le => ?_
  refine oI 1 X0 d26_0 rfl rfl <| oI 2 X0 d26_1 rfl rfl <| o_aconstNull 3 X0 d26_2 rfl <| mS 6 0 X0 (rm_au22 G ) (u22 G) d26_3 rfl rfl rfl lr (by decide) all0 ?_
  rintro _ _ _ X1 rfl _ _
  refine sk [i0] rfl ?_
  exact o_iret X1 d26_6 rfl (by decide) (by decide) rfl
def Q16 (Z : State) (b1 : Addr) (h0 : Heap) (v : Option Value) (h : Heap) : Prop := v = some (.ref b1)
theorem rm_au24 (G : GL l Z a0 zc dce kdce eed keed mrlh mrum) (F0 : fd5 Z h0 pa1 (.ref pa2)) (F1 : av2 Z h0 pa2 pk1 10 [.ref pa3, .null, .null, .null, .null, .null, .null, .null, .null, .null]) : M28 l Z 0 0 0 0 #[.ref pa1, i0] h0 n0 [] (Q16 Z pa3 h0) := by
  refine mi B28 ef10 fun s X0 n0le => ?_
  have := F0.l
  have := F1.l
  refine oA 1 X0 d28_0 rfl rfl <| oF 4 X0 (w56 G) Via.refl F0 d28_1 rfl ?_
  intro _ X2
  refine oI 5 X2 d28_4 rfl rfl <| o_aaload 6 (v := (.ref pa3)) X2 F1 rfl ⟨by decide, by decide⟩ rfl d28_5 rfl ?_
  exact oR X2 d28_6 rfl rfl rfl (by decide) (by decide) rfl
theorem rm_au25 (G : GL l Z a0 zc dce kdce eed keed mrlh mrum) (F0 : ex2 Z h0 pa1) (F1 : fd5 Z h0 pa1 (.ref pa2)) (F2 : fd6 Z h0 pa1 (.int 1)) (F3 : av2 Z h0 pa2 pk1 10 [.ref pa3, .null, .null, .null, .null, .null, .null, .null, .null, .null]) : M25 l Z 2 0 0 27 #[.ref pa1, i0] h0 n0 [] (Q16 Z pa3 h0) := by
  refine mi B25 ef10 fun s X0 n0le => ?_
  have := F0.l
  have := F3.l
  refine oI 1 X0 d25_0 rfl rfl <| oA 2 X0 d25_1 rfl rfl <| oF 5 X0 (w65 G) Via.refl F2 d25_2 rfl ?_
  intro _ X2
  refine mS 8 0 X2 (rm_au23 G ) (u23 G) d25_5 rfl rfl rfl lr (by decide) all0 ?_
  rintro _ _ _ X3 rfl K3 _
  refine sk [i0] rfl <| o_pop 9 X3 d25_8 rfl rfl <| oA 10 X3 d25_9 rfl rfl <| oI 11 X3 d25_10 rfl rfl ?_
  have f4 := F1.k0 K3
  have f5 := F3.k0 K3
  have f6 := F0.keep K3
  refine mV 14 0 X3 f6 (rm_au24 G f4 f5) (u24 G) d25_11 rfl rfl rfl lr (by decide) all0 ?_
  rintro _ _ _ X7 rfl _ _
  refine sk [.ref pa3] rfl ?_
  exact oR X7 d25_14 rfl rfl rfl (by decide) (by decide) rfl
theorem rm_au26 (G : GL l Z a0 zc dce kdce eed keed mrlh mrum) (F0 : ex1 Z h0 pa1) (F1 : fd0 Z h0 pa1 (.int 0)) (F2 : fd2 Z h0 pa1 (.int 0)) (F3 : fd3 Z h0 pa1 (.int 0)) (F4 : fd1 Z h0 pa1 (.ref pa2)) (F5 : av0 Z h0 pa2 pk1 2 [.int pi1, .int pi2]) (F6 : ex0 Z h0 pa2) (ne : NE pa1 pa2 ∧ n0 ≤ pa1) : M30 l Z 4 0 0 58 #[.ref pa1] h0 n0 [pa1] (Q2 Z pa1 pa2 h0) := by
  refine mi B30 ef0 fun s X0 n0le => ?_
  have := F0.l
  have := F5.l
  refine oA 1 X0 d30_0 rfl rfl <| ifnonnullYesJ 8 X0 d30_1 (by decide) <| oA 9 X0 d30_8 rfl rfl <| mV 12 0 X0 F0 (rm_strHash G F0 F1 F2 F3 F4 F5 F6 (by omega)) (u26 G) d30_9 rfl rfl rfl lr (by decide) (aI (by omega) (by simp) all0) ?_
  rintro _ _ _ X1 ⟨xi1_2, rfl, q3, q4, q5⟩ _ _
  refine sk [.int xi1_2] rfl <| oD 13 X1 d30_12 rfl rfl <| oT 14 (l' := #[rr pa1, ii xi1_2]) X1 d30_13 rfl rfl <| oI 15 X1 d30_14 rfl rfl <| ob 17 (v := 16) X1 d30_15 rfl (by decide) <| o_iushr 18 (v := ((xi1_2.toUInt32 >>> ((16 : Int32) &&& 31).toUInt32).toInt32)) X1 d30_17 rfl rfl <| o_ixor 19 (v := (xi1_2 ^^^ ((xi1_2.toUInt32 >>> ((16 : Int32) &&& 31).toUInt32).toInt32))) X1 d30_18 rfl rfl ?_
  exact o_iret X1 d30_19 rfl (by decide) (by decide) ⟨(xi1_2 ^^^ ((xi1_2.toUInt32 >>> ((16 : Int32) &&& 31).toUInt32).toInt32)), rfl, q3, q4, q5⟩
def Q17 (Z : State) (b1 : Addr) (h0 : Heap) (v : Option Value) (h : Heap) : Prop := ∃ (xa1 : Addr) (xk1 : ClassId), v = some (.ref xa1) ∧ ex4 Z h b1 ∧ fd9 Z h b1 (.int 0) ∧ fd13 Z h b1 .null ∧ fd7 Z h b1 (.float 1061158912) ∧ fd14 Z h b1 (.int 0) ∧ fd8 Z h b1 (.int 0) ∧ fd15 Z h b1 (.int 0) ∧ fd10 Z h b1 (.ref xa1) ∧ fd12 Z h b1 .null ∧ fd11 Z h b1 (.int 12) ∧ av3 Z h xa1 xk1 16 [.null, .null, .null, .null, .null, .null, .null, .null, .null, .null, .null, .null, .null, .null, .null, .null] ∧ ex5 Z h xa1 ∧ Ovr Z xk1 "java/util/HashMap$Node" ∧ h0.size ≤ xa1 ∧ h.size > xa1
theorem rm_au27 (G : GL l Z a0 zc dce kdce eed keed mrlh mrum) (F0 : ex4 Z h0 pa1) (F1 : fd9 Z h0 pa1 (.int 0)) (F2 : fd13 Z h0 pa1 .null) (F3 : fd7 Z h0 pa1 (.float 1061158912)) (F4 : fd14 Z h0 pa1 (.int 0)) (F5 : fd8 Z h0 pa1 (.int 0)) (F6 : fd15 Z h0 pa1 (.int 0)) (F7 : fd10 Z h0 pa1 .null) (F8 : fd12 Z h0 pa1 .null) (F9 : fd11 Z h0 pa1 (.int 0)) (ne : n0 ≤ pa1) : M32 l Z 0 1 16 0 #[.ref pa1] h0 n0 [pa1] (Q17 Z pa1 h0) := by
  refine mi B32 ef18 fun s X0 n0le => ?_
  have := F0.l
  refine oA 1 X0 d32_0 rfl rfl <| oF 4 X0 (w195 G) Via.refl F7 d32_1 rfl ?_
  intro _ X2
  refine oV 5 (l' := #[rr pa1, .val .null, uu, uu, uu, uu, uu, uu, uu, uu, uu, uu, uu, uu]) X2 d32_4 rfl rfl rfl <| o_aloadN 6 X2 d32_5 rfl rfl rfl <| o_ifnonnullNo 9 X2 d32_6 rfl <| oc 10 (v := 0) X2 d32_9 rfl (by decide) <| og 15 X2 d32_10 (by decide) <| oT 16 (l' := #[rr pa1, .val .null, ii 0, uu, uu, uu, uu, uu, uu, uu, uu, uu, uu, uu]) X2 d32_15 rfl rfl <| oA 17 X2 d32_16 rfl rfl <| oF 20 X2 (w202 G) Via.refl F9 d32_17 rfl ?_
  intro _ X4
  refine oT 21 (l' := #[rr pa1, .val .null, ii 0, ii 0, uu, uu, uu, uu, uu, uu, uu, uu, uu, uu]) X4 d32_20 rfl rfl <| oc 22 (v := 0) X4 d32_21 rfl (by decide) <| oS 24 (l' := #[rr pa1, .val .null, ii 0, ii 0, uu, ii 0, uu, uu, uu, uu, uu, uu, uu, uu]) X4 d32_22 rfl rfl <| oI 25 X4 d32_24 rfl rfl <| oy 67 X4 d32_25 (by decide) ((if0 _ _).trans (flt (by decide)).2.2.2) <| oI 68 X4 d32_67 rfl rfl <| oy 77 X4 d32_68 (by decide) ((if0 _ _).trans (flt (by decide)).2.2.2) <| ob 79 (v := 16) X4 d32_77 rfl (by decide) <| oS 81 (l' := #[rr pa1, .val .null, ii 0, ii 0, ii 16, ii 0, uu, uu, uu, uu, uu, uu, uu, uu]) X4 d32_79 rfl rfl <| ob 83 (v := 12) X4 d32_81 rfl (by decide) <| oS 85 (l' := #[rr pa1, .val .null, ii 0, ii 0, ii 16, ii 12, uu, uu, uu, uu, uu, uu, uu, uu]) X4 d32_83 rfl rfl <| oi 87 X4 d32_85 rfl rfl ?_
  refine oy 125 X4 d32_87 (by decide) ((if0 _ _).trans (feq (by decide)).2) <| oA 126 X4 d32_125 rfl rfl <| oi 128 X4 d32_126 rfl rfl <| oP 131 (v' := (.int 12)) X4 (w202 G) Via.refl F9 F0 (Or.inl (w203 G)) (w94 G) fd_3 rfl rfl d32_128 rfl (by omega) (Or.inl (by simp)) ?_
  intro _ _ X5 W5
  have := W5.size
  have f6 := F9.same W5
  refine oi 133 X5 d32_131 rfl rfl <| o_newR 136 (cap := 16) X5 (w204 G) (w205 G) d32_133 rfl (by decide) (by decide) (by decide) (by decide) (by decide) (ad := "[Ljava/util/HashMap$Node;") (by decide +kernel) ?_
  intro _ h7 b7 k7 X7 _ _ E7 V7 O7 A7
  have V8 : av3 Z h7 b7 k7 16 [.null, .null, .null, .null, .null, .null, .null, .null, .null, .null, .null, .null, .null, .null, .null, .null] := V7.pad (pad_rep [] .null 16)
  refine oU 138 (l' := #[rr pa1, .val .null, ii 0, ii 0, ii 16, ii 12, rr b7, uu, uu, uu, uu, uu, uu, uu]) X7 d32_136 rfl rfl rfl <| oA 139 X7 d32_138 rfl rfl <| oa 141 X7 d32_139 rfl rfl ?_
  have f9 := (F7.other W5 (Or.inr (sn40 G))).ext E7
  have f10 := (F0.wr W5).ext E7
  refine oP 144 (v' := (.ref b7)) X7 (w195 G) Via.refl f9 f10 (Or.inl (w196 G)) (w94 G) fd_6 rfl rfl d32_141 rfl (by omega) (Or.inl (by simp)) ?_
  intro _ _ X11 W11
  have := W11.size
  have f12 := f9.same W11
  refine o_aloadN 145 X11 d32_144 rfl rfl rfl <| ifnullYesJ 353 X11 d32_145 (by decide) <| oa 355 X11 d32_353 rfl rfl ?_
  have f13 := f10.wr W11
  have f14 := ((F1.other W5 (Or.inr (sn41 G))).ext E7).other W11 (Or.inr (sn42 G))
  have f15 := ((F2.other W5 (Or.inr (sn43 G))).ext E7).other W11 (Or.inr (sn44 G))
  have f16 := ((F3.other W5 (Or.inr (sn45 G))).ext E7).other W11 (Or.inr (sn46 G))
  have f17 := ((F4.other W5 (Or.inr (sn47 G))).ext E7).other W11 (Or.inr (sn48 G))
  have f18 := ((F5.other W5 (Or.inr (sn49 G))).ext E7).other W11 (Or.inr (sn50 G))
  have f19 := ((F6.other W5 (Or.inr (sn51 G))).ext E7).other W11 (Or.inr (sn52 G))
  have f20 := ((F8.other W5 (Or.inr (sn53 G))).ext E7).other W11 (Or.inr (sn54 G))
  have f21 := (f6.ext E7).other W11 (Or.inr (sn55 G))
  have f22 := V8.oth W11 (by omega)
  have f23 := A7.wr W11
  exact oR X11 d32_355 rfl rfl rfl (by decide) (by decide) ⟨b7, k7, rfl, f13, f14, f15, f16, f17, f18, f19, f12, f20, f21, f22, f23, O7, by omega⟩
def Q18 (Z : State) (b1 : Addr) (b2 : Int32) (b3 b4 : Addr) (h0 : Heap) (v : Option Value) (h : Heap) : Prop := v = none ∧ ex6 Z h b1 ∧ fd16 Z h b1 (.int b2) ∧ fd17 Z h b1 (.ref b3) ∧ fd19 Z h b1 .null ∧ fd18 Z h b1 (.ref b4)
theorem rm_au28 (G : GL l Z a0 zc dce kdce eed keed mrlh mrum) (F0 : ex6 Z h0 pa1) (F1 : fd16 Z h0 pa1 (.int 0)) (F2 : fd17 Z h0 pa1 .null) (F3 : fd19 Z h0 pa1 .null) (F4 : fd18 Z h0 pa1 .null) (ne : n0 ≤ pa1) : M35 l Z 1 0 0 12 #[.ref pa1, .int pi1, .ref pa2, .ref pa3, .null] h0 n0 [pa1] (Q18 Z pa1 pi1 pa2 pa3 h0) := by
  refine mi B35 ef20 fun s X0 n0le => ?_
  have := F0.l
  refine oA 1 X0 d35_0 rfl rfl <| o_initO 4 (W := 0) X0 (w225 G) (w16 G) (w17 G) rfl (by decide) (Nat.le_of_eq rfl) (by decide) d35_1 rfl ?_
  intro _ X2
  refine oA 5 X2 d35_4 rfl rfl <| oI 6 X2 d35_5 rfl rfl <| oP 9 (v' := (.int pi1)) X2 (w226 G) Via.refl F1 F0 (Or.inr ⟨(w227 G), rfl, rfl⟩) (w213 G) fd_3 rfl rfl d35_6 rfl (by omega) (Or.inl (by simp)) ?_
  intro _ _ X3 W3
  have := W3.size
  have f4 := F1.same W3
  refine oA 10 X3 d35_9 rfl rfl <| oA 11 X3 d35_10 rfl rfl ?_
  have f5 := F2.other W3 (Or.inr (sn56 G))
  have f6 := F0.wr W3
  refine oP 14 (v' := (.ref pa2)) X3 (w228 G) Via.refl f5 f6 (Or.inr ⟨(w229 G), rfl, rfl⟩) (w213 G) fd_8 rfl rfl d35_11 rfl (by omega) (Or.inl (by simp)) ?_
  intro _ _ X7 W7
  have := W7.size
  have f8 := f5.same W7
  refine oA 15 X7 d35_14 rfl rfl <| oA 16 X7 d35_15 rfl rfl ?_
  have f9 := (F4.other W3 (Or.inr (sn57 G))).other W7 (Or.inr (sn58 G))
  have f10 := f6.wr W7
  refine oP 19 (v' := (.ref pa3)) X7 (w230 G) Via.refl f9 f10 (Or.inl (w231 G)) (w213 G) fd_8 rfl rfl d35_16 rfl (by omega) (Or.inl (by simp)) ?_
  intro _ _ X11 W11
  have := W11.size
  have f12 := f9.same W11
  refine oA 20 X11 d35_19 rfl rfl <| o_aload 22 X11 d35_20 rfl rfl rfl ?_
  have f13 := ((F3.other W3 (Or.inr (sn59 G))).other W7 (Or.inr (sn60 G))).other W11 (Or.inr (sn61 G))
  have f14 := f10.wr W11
  refine oP 25 (v' := .null) X11 (w232 G) Via.refl f13 f14 (Or.inl (w233 G)) (w213 G) fd_9 rfl rfl d35_22 rfl (by omega) (Or.inl (by simp)) ?_
  intro _ _ X15 W15
  have := W15.size
  have f16 := f13.same W15
  have f17 := f14.wr W15
  have f18 := ((f4.other W7 (Or.inr (sn62 G))).other W11 (Or.inr (sn63 G))).other W15 (Or.inr (sn64 G))
  have f19 := (f8.other W11 (Or.inr (sn65 G))).other W15 (Or.inr (sn66 G))
  have f20 := f12.other W15 (Or.inr (sn67 G))
  exact oz X15 d35_25 rfl (by decide) (by decide) ⟨rfl, f17, f18, f19, f16, f20⟩
theorem rm_au29 (G : GL l Z a0 zc dce kdce eed keed mrlh mrum) (F0 : ex6 Z h0 pa1) (F1 : fd16 Z h0 pa1 (.int 0)) (F2 : fd17 Z h0 pa1 .null) (F3 : fd19 Z h0 pa1 .null) (F4 : fd18 Z h0 pa1 .null) (ne : n0 ≤ pa1) : M34 l Z 2 0 0 28 #[.ref pa1, .int pi1, .ref pa2, .ref pa3, .null] h0 n0 [pa1] (Q18 Z pa1 pi1 pa2 pa3 h0) := by
  refine mi B34 ef20 fun s X0 n0le => ?_
  have := F0.l
  refine oA 1 X0 d34_0 rfl rfl <| oI 2 X0 d34_1 rfl rfl <| oA 3 X0 d34_2 rfl rfl <| oA 4 X0 d34_3 rfl rfl <| o_aload 6 X0 d34_4 rfl rfl rfl <| mP 9 0 X0 (rm_au28 G F0 F1 F2 F3 F4 (by omega)) (u29 G) d34_6 rfl rfl rfl lr (by decide) (aI (by omega) (by simp) all0) ?_
  rintro _ _ _ X1 ⟨rfl, q2, q3, q4, q5, q6⟩ _ _
  refine sk [] rfl ?_
  exact oz X1 d34_9 rfl (by decide) (by decide) ⟨rfl, q2, q3, q4, q5, q6⟩
def Q19 (Z : State) (b1 b2 b3 : Addr) (h0 : Heap) (v : Option Value) (h : Heap) : Prop := v = none ∧ ex4 Z h b1 ∧ fd9 Z h b1 (.int 0) ∧ fd13 Z h b1 (.ref b2) ∧ fd7 Z h b1 (.float 1061158912) ∧ fd14 Z h b1 (.int 0) ∧ fd8 Z h b1 (.int 0) ∧ fd15 Z h b1 (.int 0) ∧ fd10 Z h b1 (.ref b3) ∧ fd12 Z h b1 (.ref b2) ∧ fd11 Z h b1 (.int 12)
theorem rm_au30 (G : GL l Z a0 zc dce kdce eed keed mrlh mrum) (F0 : ex4 Z h0 pa1) (F1 : fd9 Z h0 pa1 (.int 0)) (F2 : fd13 Z h0 pa1 .null) (F3 : fd7 Z h0 pa1 (.float 1061158912)) (F4 : fd14 Z h0 pa1 (.int 0)) (F5 : fd8 Z h0 pa1 (.int 0)) (F6 : fd15 Z h0 pa1 (.int 0)) (F7 : fd10 Z h0 pa1 (.ref pa3)) (F8 : fd12 Z h0 pa1 .null) (F9 : fd11 Z h0 pa1 (.int 12)) (ne : n0 ≤ pa1) : M36 l Z 0 0 0 0 #[.ref pa1, .ref pa2] h0 n0 [pa1] (Q19 Z pa1 pa2 pa3 h0) := by
  refine mi B36 ef21 fun s X0 n0le => ?_
  have := F0.l
  refine oA 1 X0 d36_0 rfl rfl <| oF 4 X0 (w115 G) Via.refl F5 d36_1 rfl ?_
  intro _ X2
  refine oc 5 (v := 1) X2 d36_4 rfl (by decide) <| oY 43 X2 d36_5 (by decide) (feq (by decide)).2 <| oA 44 X2 d36_43 rfl rfl <| oF 47 X2 (w239 G) Via.refl F8 d36_44 rfl ?_
  intro _ X4
  refine oV 48 (l' := #[rr pa1, rr pa2, .val .null]) X4 d36_47 rfl rfl rfl <| oA 49 X4 d36_48 rfl rfl <| oA 50 X4 d36_49 rfl rfl <| oP 53 (v' := (.ref pa2)) X4 (w239 G) Via.refl F8 F0 (Or.inl (w240 G)) (w94 G) fd_7 rfl rfl d36_50 rfl (by omega) (Or.inl (by simp)) ?_
  intro _ _ X5 W5
  have := W5.size
  have f6 := F8.same W5
  refine o_aloadN 54 X5 d36_53 rfl rfl rfl <| o_ifnonnullNo 57 X5 d36_54 rfl <| oA 58 X5 d36_57 rfl rfl <| oA 59 X5 d36_58 rfl rfl ?_
  have f7 := F2.other W5 (Or.inr (sn68 G))
  have f8 := F0.wr W5
  refine oP 62 (v' := (.ref pa2)) X5 (w241 G) Via.refl f7 f8 (Or.inl (w242 G)) (w94 G) fd_7 rfl rfl d36_59 rfl (by omega) (Or.inl (by simp)) ?_
  intro _ _ X9 W9
  have := W9.size
  have f10 := f7.same W9
  refine og 75 X9 d36_62 (by decide) ?_
  have f11 := f8.wr W9
  have f12 := (F1.other W5 (Or.inr (sn69 G))).other W9 (Or.inr (sn70 G))
  have f13 := (F3.other W5 (Or.inr (sn71 G))).other W9 (Or.inr (sn72 G))
  have f14 := (F4.other W5 (Or.inr (sn73 G))).other W9 (Or.inr (sn74 G))
  have f15 := (F5.other W5 (Or.inr (sn75 G))).other W9 (Or.inr (sn76 G))
  have f16 := (F6.other W5 (Or.inr (sn77 G))).other W9 (Or.inr (sn78 G))
  have f17 := (F7.other W5 (Or.inr (sn79 G))).other W9 (Or.inr (sn80 G))
  have f18 := f6.other W9 (Or.inr (sn81 G))
  have f19 := (F9.other W5 (Or.inr (sn82 G))).other W9 (Or.inr (sn83 G))
  exact oz X9 d36_75 rfl (by decide) (by decide) ⟨rfl, f11, f12, f10, f13, f14, f15, f16, f17, f18, f19⟩
def Q20 (Z : State) (b1 b2 : Addr) (b3 : Int32) (b4 b5 : Addr) (h0 : Heap) (v : Option Value) (h : Heap) : Prop := ∃ (xa1 : Addr), v = some (.ref xa1) ∧ ex4 Z h b1 ∧ fd9 Z h b1 (.int 0) ∧ fd13 Z h b1 (.ref xa1) ∧ fd7 Z h b1 (.float 1061158912) ∧ fd14 Z h b1 (.int 0) ∧ fd8 Z h b1 (.int 0) ∧ fd15 Z h b1 (.int 0) ∧ fd10 Z h b1 (.ref b2) ∧ fd12 Z h b1 (.ref xa1) ∧ fd11 Z h b1 (.int 12) ∧ ex6 Z h xa1 ∧ fd16 Z h xa1 (.int b3) ∧ fd17 Z h xa1 (.ref b4) ∧ fd19 Z h xa1 .null ∧ fd18 Z h xa1 (.ref b5) ∧ h0.size ≤ xa1 ∧ h.size > xa1
theorem rm_au31 (G : GL l Z a0 zc dce kdce eed keed mrlh mrum) (F0 : ex4 Z h0 pa1) (F1 : fd9 Z h0 pa1 (.int 0)) (F2 : fd13 Z h0 pa1 .null) (F3 : fd7 Z h0 pa1 (.float 1061158912)) (F4 : fd14 Z h0 pa1 (.int 0)) (F5 : fd8 Z h0 pa1 (.int 0)) (F6 : fd15 Z h0 pa1 (.int 0)) (F7 : fd10 Z h0 pa1 (.ref pa4)) (F8 : fd12 Z h0 pa1 .null) (F9 : fd11 Z h0 pa1 (.int 12)) (ne : n0 ≤ pa1) : M33 l Z 3 1 6 45 #[.ref pa1, .int pi1, .ref pa2, .ref pa3, .null] h0 n0 [pa1] (Q20 Z pa1 pa4 pi1 pa2 pa3 h0) := by
  refine mi B33 ef19 fun s X0 n0le => ?_
  have l1 := F0.l
  refine o_new 3 X0 (w212 G) (w213 G) (w214 G) d33_0 rfl (by decide) (by decide) ?_
  intro _ h1 b1 X1 _ l1 E1 A1 D1 _
  have f2 : fd16 Z h1 b1 (.int 0) := D1 (Or.inr (w227 G)) fd_3
  have f3 : fd17 Z h1 b1 .null := D1 (Or.inr (w229 G)) fd_8
  have f4 : fd18 Z h1 b1 .null := D1 (Or.inl (w231 G)) fd_8
  have f5 : fd19 Z h1 b1 .null := D1 (Or.inl (w233 G)) fd_9
  refine oD 4 X1 d33_3 rfl rfl <| oI 5 X1 d33_4 rfl rfl <| oA 6 X1 d33_5 rfl rfl <| oA 7 X1 d33_6 rfl rfl <| o_aload 9 X1 d33_7 rfl rfl rfl <| mP 12 1 X1 (rm_au29 G A1 f2 f3 f5 f4 (by omega)) (u30 G) d33_9 rfl rfl rfl lr (by decide) (aR (by omega) all0) ?_
  rintro _ _ _ X6 ⟨rfl, q7, q8, q9, q10, q11⟩ K6 _
  refine sk [.ref b1] rfl <| oU 14 (l' := #[rr pa1, ii pi1, rr pa2, rr pa3, .val .null, rr b1]) X6 d33_12 rfl rfl rfl <| oA 15 X6 d33_14 rfl rfl <| oa 17 X6 d33_15 rfl rfl ?_
  have f12 := (F0.ext E1).keep K6
  have f13 := (F1.ext E1).k1 K6 (by omega)
  have f14 := (F2.ext E1).k1 K6 (by omega)
  have f15 := (F3.ext E1).k1 K6 (by omega)
  have f16 := (F4.ext E1).k1 K6 (by omega)
  have f17 := (F5.ext E1).k1 K6 (by omega)
  have f18 := (F6.ext E1).k1 K6 (by omega)
  have f19 := (F7.ext E1).k1 K6 (by omega)
  have f20 := (F8.ext E1).k1 K6 (by omega)
  have f21 := (F9.ext E1).k1 K6 (by omega)
  refine mV 20 0 X6 f12 (rm_au30 G f12 f13 f14 f15 f16 f17 f18 f19 f20 f21 (by omega)) (u31 G) d33_17 rfl rfl rfl lr (by decide) (aI (by omega) (by simp) all0) ?_
  rintro _ _ _ X22 ⟨rfl, q23, q24, q25, q26, q27, q28, q29, q30, q31, q32⟩ K22 _
  refine sk [] rfl <| oa 22 X22 d33_20 rfl rfl ?_
  have f33 := q7.keep K22
  have f34 := q8.k1 K22 (by omega)
  have f35 := q9.k1 K22 (by omega)
  have f36 := q10.k1 K22 (by omega)
  have f37 := q11.k1 K22 (by omega)
  exact oR X22 d33_22 rfl rfl rfl (by decide) (by decide) ⟨b1, rfl, q23, q24, q25, q26, q27, q28, q29, q30, q31, q32, f33, f34, f35, f36, f37, by omega⟩
theorem rm_au32 (G : GL l Z a0 zc dce kdce eed keed mrlh mrum)  : M38 l Z 0 0 0 0 #[.ref pa1, .ref pa2] h0 n0 [] (Q5 Z  h0) := by
  refine mi B38 ef6 fun s X0 n0le => ?_
  refine oc 1 (v := 0) X0 d38_0 rfl (by decide) ?_
  exact o_nret (y := (0 : Int32)) (t := .boolean) X0 d38_1 rfl (by decide) (by simp) (by decide) (by decide) rfl
theorem rm_au33 (G : GL l Z a0 zc dce kdce eed keed mrlh mrum) (F0 : ex4 Z h0 pa1) (F1 : fd13 Z h0 pa1 (.ref pa2)) : M37 l Z 1 0 0 13 #[.ref pa1, .int 1] h0 n0 [] (Q8 Z  h0) := by
  refine mi B37 ef12 fun s X0 n0le => ?_
  have := F0.l
  refine oI 1 X0 d37_0 rfl rfl <| on 4 X0 d37_1 rfl ((if0 _ _).trans (feq (by decide)).1) <| oA 5 X0 d37_4 rfl rfl <| oF 8 X0 (w241 G) Via.refl F1 d37_5 rfl ?_
  intro _ X2
  refine oD 9 X2 d37_8 rfl rfl <| oV 10 (l' := #[rr pa1, ii 1, rr pa2, uu]) X2 d37_9 rfl rfl rfl <| o_ifnullNo 13 X2 d37_10 rfl <| oA 14 X2 d37_13 rfl rfl <| oA 15 X2 d37_14 rfl rfl <| mV 18 0 X2 F0 (rm_au32 G ) (u33 G) d37_15 rfl rfl rfl lr (by decide) all0 ?_
  rintro _ _ _ X3 rfl _ _
  refine sk [i0] rfl <| oy 39 X3 d37_18 (by decide) ((if0 _ _).trans (teq (by decide)).1) ?_
  exact oz X3 d37_39 rfl (by decide) (by decide) rfl
def Q21 (Z : State) (b1 : Addr) (b2 : Int32) (b3 b4 : Addr) (h0 : Heap) (v : Option Value) (h : Heap) : Prop := ∃ (xa1 : Addr) (xa2 : Addr) (xk1 : ClassId), v = some .null ∧ ex4 Z h b1 ∧ fd9 Z h b1 (.int 0) ∧ fd13 Z h b1 (.ref xa1) ∧ fd7 Z h b1 (.float 1061158912) ∧ fd14 Z h b1 (.int 1) ∧ fd8 Z h b1 (.int 0) ∧ fd15 Z h b1 (.int 1) ∧ fd10 Z h b1 (.ref xa2) ∧ fd12 Z h b1 (.ref xa1) ∧ fd11 Z h b1 (.int 12) ∧ ex6 Z h xa1 ∧ fd16 Z h xa1 (.int b2) ∧ fd17 Z h xa1 (.ref b3) ∧ fd19 Z h xa1 .null ∧ fd18 Z h xa1 (.ref b4) ∧ ex5 Z h xa2 ∧ Ovr Z xk1 "java/util/HashMap$Node" ∧ h0.size ≤ xa1 ∧ h.size > xa1 ∧ h0.size ≤ xa2 ∧ h.size > xa2 ∧ NE xa1 xa2
theorem rm_au34 (G : GL l Z a0 zc dce kdce eed keed mrlh mrum) (F0 : ex4 Z h0 pa1) (F1 : fd9 Z h0 pa1 (.int 0)) (F2 : fd13 Z h0 pa1 .null) (F3 : fd7 Z h0 pa1 (.float 1061158912)) (F4 : fd14 Z h0 pa1 (.int 0)) (F5 : fd8 Z h0 pa1 (.int 0)) (F6 : fd15 Z h0 pa1 (.int 0)) (F7 : fd10 Z h0 pa1 .null) (F8 : fd12 Z h0 pa1 .null) (F9 : fd11 Z h0 pa1 (.int 0)) (ne : n0 ≤ pa1) : M31 l Z 4 2 22 64 #[.ref pa1, .int pi1, .ref pa2, .ref pa3, i0, .int 1] h0 n0 [pa1] (Q21 Z pa1 pi1 pa2 pa3 h0) := by
  refine mi B31 ef17 fun s X0 n0le => ?_
  have := F0.l
  refine oA 1 X0 d31_0 rfl rfl <| oF 4 X0 (w195 G) Via.refl F7 d31_1 rfl ?_
  intro _ X2
  refine oD 5 X2 d31_4 rfl rfl <| oU 7 (l' := #[rr pa1, ii pi1, rr pa2, rr pa3, ii 0, ii 1, .val .null, uu, uu, uu, uu, uu, uu]) X2 d31_5 rfl rfl rfl <| ifnullYesJ 19 X2 d31_7 (by decide) <| oA 20 X2 d31_19 rfl rfl <| mV 23 0 X2 F0 (rm_au27 G F0 F1 F2 F3 F4 F5 F6 F7 F8 F9 (by omega)) (u28 G) d31_20 rfl rfl rfl lr (by decide) (aI (by omega) (by simp) all0) ?_
  rintro _ _ _ X3 ⟨xa1_4, xk1_5, rfl, q6, q7, q8, q9, q10, q11, q12, q13, q14, q15, q16, q17, q18, _⟩ _ _
  refine sk [.ref xa1_4] rfl <| oD 24 X3 d31_23 rfl rfl <| oU 26 (l' := #[rr pa1, ii pi1, rr pa2, rr pa3, ii 0, ii 1, rr xa1_4, uu, uu, uu, uu, uu, uu]) X3 d31_24 rfl rfl rfl <| oL 27 X3 q16 d31_26 rfl <| oS 29 (l' := #[rr pa1, ii pi1, rr pa2, rr pa3, ii 0, ii 1, rr xa1_4, uu, ii 16, uu, uu, uu, uu]) X3 d31_27 rfl rfl <| oa 31 X3 d31_29 rfl rfl <| oi 33 X3 d31_31 rfl rfl <| oc 34 (v := 1) X3 d31_33 rfl (by decide) <| o_isub 35 (v := 15) X3 d31_34 rfl (by decide) <| oI 36 X3 d31_35 rfl rfl <| o_iand 37 (v := ((15 : Int32) &&& pi1)) X3 d31_36 rfl rfl <| oD 38 X3 d31_37 rfl rfl ?_
  refine oS 40 (l' := #[rr pa1, ii pi1, rr pa2, rr pa3, ii 0, ii 1, rr xa1_4, uu, ii 16, ii ((15 : Int32) &&& pi1), uu, uu, uu]) X3 d31_38 rfl rfl <| o_aaload 41 (v := .null) X3 q16 rfl (own_and15 pi1).1 (own_getNull 16 _) d31_40 rfl <| oD 42 X3 d31_41 rfl rfl <| oU 44 (l' := #[rr pa1, ii pi1, rr pa2, rr pa3, ii 0, ii 1, rr xa1_4, .val .null, ii 16, ii ((15 : Int32) &&& pi1), uu, uu, uu]) X3 d31_42 rfl rfl rfl <| o_ifnonnullNo 47 X3 d31_44 rfl <| oa 49 X3 d31_47 rfl rfl <| oi 51 X3 d31_49 rfl rfl <| oA 52 X3 d31_51 rfl rfl <| oI 53 X3 d31_52 rfl rfl <| oA 54 X3 d31_53 rfl rfl <| oA 55 X3 d31_54 rfl rfl <| o_aconstNull 56 X3 d31_55 rfl ?_
  refine mV 59 2 X3 q6 (rm_au31 G q6 q7 q8 q9 q10 q11 q12 q13 q14 q15 (by omega)) (u32 G) d31_56 rfl rfl rfl lr (by decide) (aI (by omega) (by simp) all0) ?_
  rintro _ _ _ X20 ⟨xa1_21, rfl, q22, q23, q24, q25, q26, q27, q28, q29, q30, q31, q32, q33, q34, q35, q36, _⟩ K20 _
  refine sk [.ref xa1_21, .int ((15 : Int32) &&& pi1), .ref xa1_4] rfl ?_
  have f38 := q16.k1 K20 (by omega)
  refine o_stR 60 (i := ((15 : Int32) &&& pi1).toNatClampNeg) X20 f38 rfl (own_sto f38 q18 q32 (w222 G)) rfl (own_and15 _).1 rfl (own_and15 _).2 d31_59 rfl (by omega) (Or.inr (by omega)) ?_
  rintro _ _ X39 ⟨_, _, W39⟩ _
  have := W39.size
  refine og 259 X39 d31_60 (by decide) <| oA 260 X39 d31_259 rfl rfl <| oD 261 X39 d31_260 rfl rfl ?_
  have f40 := q26.oth W39 (by omega)
  refine oF 264 X39 (w243 G) Via.refl f40 d31_261 rfl ?_
  intro _ X42
  refine oc 265 (v := 1) X42 d31_264 rfl (by decide) <| o_iadd 266 (v := 1) X42 d31_265 rfl (by decide) ?_
  have f43 := q22.wr W39
  refine oP 269 (v' := (.int 1)) X42 (w243 G) Via.refl f40 f43 (Or.inl (w244 G)) (w94 G) fd_3 rfl rfl d31_266 rfl (by omega) (Or.inl (by simp)) ?_
  intro _ _ X44 W44
  have := W44.size
  have f45 := f40.same W44
  refine oA 270 X44 d31_269 rfl rfl <| oD 271 X44 d31_270 rfl rfl ?_
  have f46 := (q28.oth W39 (by omega)).other W44 (Or.inr (sn84 G))
  refine oF 274 X44 (w245 G) Via.refl f46 d31_271 rfl ?_
  intro _ X48
  refine oc 275 (v := 1) X48 d31_274 rfl (by decide) <| o_iadd 276 (v := 1) X48 d31_275 rfl (by decide) <| o_dupX1 277 X48 d31_276 rfl rfl rfl ?_
  have f49 := f43.wr W44
  refine oP 280 (v' := (.int 1)) X48 (w245 G) Via.refl f46 f49 (Or.inl (w246 G)) (w94 G) fd_3 rfl rfl d31_277 rfl (by omega) (Or.inl (by simp)) ?_
  intro _ _ X50 W50
  have := W50.size
  have f51 := f46.same W50
  refine oA 281 X50 d31_280 rfl rfl ?_
  have f52 := ((q31.oth W39 (by omega)).other W44 (Or.inr (sn85 G))).other W50 (Or.inr (sn86 G))
  refine oF 284 X50 (w202 G) Via.refl f52 d31_281 rfl ?_
  intro _ X54
  refine oY 292 X54 d31_284 (by decide) (flt (by decide)).2.2.2 <| oA 293 X54 d31_292 rfl rfl <| oi 295 X54 d31_293 rfl rfl ?_
  have f55 := f49.wr W50
  have f56 := ((q24.oth W39 (by omega)).other W44 (Or.inr (sn87 G))).other W50 (Or.inr (sn88 G))
  refine mV 298 0 X54 f55 (rm_au33 G f55 f56) (u34 G) d31_295 rfl rfl rfl lr (by decide) all0 ?_
  rintro _ _ _ X57 rfl K57 _
  refine sk [] rfl <| o_aconstNull 299 X57 d31_298 rfl ?_
  have f58 := f55.keep K57
  have f59 := (((q23.oth W39 (by omega)).other W44 (Or.inr (sn89 G))).other W50 (Or.inr (sn90 G))).k0 K57
  have f60 := f56.k0 K57
  have f61 := (((q25.oth W39 (by omega)).other W44 (Or.inr (sn91 G))).other W50 (Or.inr (sn92 G))).k0 K57
  have f62 := (f45.other W50 (Or.inr (sn93 G))).k0 K57
  have f63 := (((q27.oth W39 (by omega)).other W44 (Or.inr (sn94 G))).other W50 (Or.inr (sn95 G))).k0 K57
  have f64 := f51.k0 K57
  have f65 := (((q29.oth W39 (by omega)).other W44 (Or.inr (sn96 G))).other W50 (Or.inr (sn97 G))).k0 K57
  have f66 := (((q30.oth W39 (by omega)).other W44 (Or.inr (sn98 G))).other W50 (Or.inr (sn99 G))).k0 K57
  have f67 := f52.k0 K57
  have f68 := (((q32.wr W39).wr W44).wr W50).keep K57
  have f69 := (((q33.oth W39 (by omega)).oth W44 (by omega)).oth W50 (by omega)).k0 K57
  have f70 := (((q34.oth W39 (by omega)).oth W44 (by omega)).oth W50 (by omega)).k0 K57
  have f71 := (((q35.oth W39 (by omega)).oth W44 (by omega)).oth W50 (by omega)).k0 K57
  have f72 := (((q36.oth W39 (by omega)).oth W44 (by omega)).oth W50 (by omega)).k0 K57
  have f73 := ((((q17.keep K20).wr W39).wr W44).wr W50).keep K57
  exact oR X57 d31_299 rfl rfl rfl (by decide) (by decide) ⟨xa1_21, xa1_4, xk1_5, rfl, f58, f59, f60, f61, f62, f63, f64, f65, f66, f67, f68, f69, f70, f71, f72, f73, q18, by omega⟩
def Q22 (Z : State) (b1 b2 b3 b4 : Addr) (h0 : Heap) (v : Option Value) (h : Heap) : Prop := ∃ (xa1 : Addr) (xa2 : Addr) (xk1 : ClassId) (xi1 : Int32), v = some .null ∧ ex4 Z h b1 ∧ fd9 Z h b1 (.int 0) ∧ fd13 Z h b1 (.ref xa1) ∧ fd7 Z h b1 (.float 1061158912) ∧ fd14 Z h b1 (.int 1) ∧ fd8 Z h b1 (.int 0) ∧ fd15 Z h b1 (.int 1) ∧ fd10 Z h b1 (.ref xa2) ∧ fd12 Z h b1 (.ref xa1) ∧ fd11 Z h b1 (.int 12) ∧ ex1 Z h b2 ∧ fd0 Z h b2 (.int 0) ∧ fd1 Z h b2 (.ref b3) ∧ ex6 Z h xa1 ∧ fd16 Z h xa1 (.int xi1) ∧ fd17 Z h xa1 (.ref b2) ∧ fd19 Z h xa1 .null ∧ fd18 Z h xa1 (.ref b4) ∧ ex5 Z h xa2 ∧ Ovr Z xk1 "java/util/HashMap$Node" ∧ h0.size ≤ xa1 ∧ h.size > xa1 ∧ h0.size ≤ xa2 ∧ h.size > xa2 ∧ NE xa1 xa2
theorem rm_au35 (G : GL l Z a0 zc dce kdce eed keed mrlh mrum) (F0 : ex4 Z h0 pa1) (F1 : fd9 Z h0 pa1 (.int 0)) (F2 : fd13 Z h0 pa1 .null) (F3 : fd7 Z h0 pa1 (.float 1061158912)) (F4 : fd14 Z h0 pa1 (.int 0)) (F5 : fd8 Z h0 pa1 (.int 0)) (F6 : fd15 Z h0 pa1 (.int 0)) (F7 : fd10 Z h0 pa1 .null) (F8 : fd12 Z h0 pa1 .null) (F9 : fd11 Z h0 pa1 (.int 0)) (F10 : ex1 Z h0 pa2) (F11 : fd0 Z h0 pa2 (.int 0)) (F12 : fd2 Z h0 pa2 (.int 0)) (F13 : fd3 Z h0 pa2 (.int 0)) (F14 : fd1 Z h0 pa2 (.ref pa4)) (F15 : av0 Z h0 pa4 pk1 2 [.int pi1, .int pi2]) (F16 : ex0 Z h0 pa4) (ne : NE pa1 pa2 ∧ NE pa1 pa4 ∧ NE pa2 pa4 ∧ n0 ≤ pa1 ∧ n0 ≤ pa2) : M29 l Z 5 2 22 88 #[.ref pa1, .ref pa2, .ref pa3] h0 n0 [pa1, pa2] (Q22 Z pa1 pa2 pa4 pa3 h0) := by
  refine mi B29 ef16 fun s X0 n0le => ?_
  have := F0.l
  have := F10.l
  have := F15.l
  refine oA 1 X0 d29_0 rfl rfl <| oA 2 X0 d29_1 rfl rfl <| mS 5 1 X0 (rm_au26 G F10 F11 F12 F13 F14 F15 F16 (by omega)) (u27 G) d29_2 rfl rfl rfl lr (by decide) (aI (by omega) (by simp) all0) ?_
  rintro _ _ _ X1 ⟨xi1_2, rfl, q3, q4, q5⟩ K1 _
  refine sk [.int xi1_2, .ref pa1] rfl <| oA 6 X1 d29_5 rfl rfl <| oA 7 X1 d29_6 rfl rfl <| oc 8 (v := 0) X1 d29_7 rfl (by decide) <| oc 9 (v := 1) X1 d29_8 rfl (by decide) ?_
  have f6 := F0.keep K1
  have f7 := F1.k1 K1 (by omega)
  have f8 := F2.k1 K1 (by omega)
  have f9 := F3.k1 K1 (by omega)
  have f10 := F4.k1 K1 (by omega)
  have f11 := F5.k1 K1 (by omega)
  have f12 := F6.k1 K1 (by omega)
  have f13 := F7.k1 K1 (by omega)
  have f14 := F8.k1 K1 (by omega)
  have f15 := F9.k1 K1 (by omega)
  refine mV 12 0 X1 f6 (rm_au34 G f6 f7 f8 f9 f10 f11 f12 f13 f14 f15 (by omega)) (u35 G) d29_9 rfl rfl rfl lr (by decide) (aI (by omega) (by simp) all0) ?_
  rintro _ _ _ X16 ⟨xa1_17, xa2_18, xk1_19, rfl, q20, q21, q22, q23, q24, q25, q26, q27, q28, q29, q30, q31, q32, q33, q34, q35, q36, _⟩ K16 _
  refine sk [.null] rfl ?_
  have f38 := q3.keep K16
  have f39 := q4.k1 K16 (by omega)
  have f40 := q5.k1 K16 (by omega)
  exact oR X16 d29_12 rfl rfl rfl (by decide) (by decide) ⟨xa1_17, xa2_18, xk1_19, xi1_2, rfl, q20, q21, q22, q23, q24, q25, q26, q27, q28, q29, f38, f39, f40, q30, q31, q32, q33, q34, q35, q36, by omega⟩
def Q23 (Z : State) (b1 b2 : Addr) (h0 : Heap) (v : Option Value) (h : Heap) : Prop := v = none ∧ ex7 Z h b1 ∧ fd24 Z h b1 (.ref b2)
theorem rm_au36 (G : GL l Z a0 zc dce kdce eed keed mrlh mrum) (F0 : ex7 Z h0 pa1) (F1 : fd24 Z h0 pa1 .null) (ne : n0 ≤ pa1) : M40 l Z 1 0 0 12 #[.ref pa1, .ref pa2] h0 n0 [pa1] (Q23 Z pa1 pa2 h0) := by
  refine mi B40 ef6 fun s X0 n0le => ?_
  have := F0.l
  refine oA 1 X0 d40_0 rfl rfl <| o_initO 4 (W := 0) X0 (w280 G) (w16 G) (w17 G) rfl (by decide) (Nat.le_of_eq rfl) (by decide) d40_1 rfl ?_
  intro _ X2
  refine oA 5 X2 d40_4 rfl rfl <| ifnonnullYesJ 16 X2 d40_5 (by decide) <| oA 17 X2 d40_16 rfl rfl <| oA 18 X2 d40_17 rfl rfl <| oP 21 (v' := (.ref pa2)) X2 (w281 G) Via.refl F1 F0 (Or.inr ⟨(w282 G), rfl, rfl⟩) (w275 G) fd_11 rfl rfl d40_18 rfl (by omega) (Or.inl (by simp)) ?_
  intro _ _ X3 W3
  have := W3.size
  have f4 := F1.same W3
  have f5 := F0.wr W3
  exact oz X3 d40_21 rfl (by decide) (by decide) ⟨rfl, f5, f4⟩
def Q24 (Z : State) (b1 : Addr) (h0 : Heap) (v : Option Value) (h : Heap) : Prop := ∃ (xa1 : Addr), v = some (.ref xa1) ∧ ex7 Z h xa1 ∧ fd24 Z h xa1 (.ref b1) ∧ h0.size ≤ xa1 ∧ h.size > xa1
theorem rm_au37 (G : GL l Z a0 zc dce kdce eed keed mrlh mrum) (F0 : ex4 Z h0 pa1) : M39 l Z 2 1 4 40 #[.ref pa1] h0 n0 [] (Q24 Z pa1 h0) := by
  refine mi B39 ef1 fun s X0 n0le => ?_
  have := F0.l
  refine oA 1 X0 d39_0 rfl rfl <| o_gcI 6 (W := 0) X0 (w264 G) (w265 G) (w266 G) (w267 G) (w268 G) (w269 G) (w270 G) (w157 G) (w271 G) (by decide) (by decide) rfl rfl F0 (sg4 G) rfl (by decide) (Nat.le_of_eq rfl) (by decide) d39_1 rfl ?_
  intro _ X2
  refine o_ldcK 8 X2 (w273 G) (sg5 G) d39_6 rfl ?_
  intro _ X4
  refine o_acmp 13 (same := false) X4 d39_8 rfl rfl (decide_eq_false (fun q => (sg4 G).ne (sg5 G) (by decide +kernel) (Value.ref.inj q))) (by decide) (by decide) <| o_new 16 X4 (w273 G) (w275 G) (w276 G) d39_13 rfl (by decide) (by decide) ?_
  intro _ h5 b5 X5 _ _ _ A5 D5 _
  have f6 : fd24 Z h5 b5 .null := D5 (Or.inr (w282 G)) fd_11
  refine oD 17 X5 d39_16 rfl rfl <| oA 18 X5 d39_17 rfl rfl <| mP 21 1 X5 (rm_au36 G A5 f6 (by omega)) (u37 G) d39_18 rfl rfl rfl lr (by decide) (aR (by omega) all0) ?_
  rintro _ _ _ X7 ⟨rfl, q8, q9⟩ _ _
  refine sk [.ref b5] rfl ?_
  exact oR X7 d39_21 rfl rfl rfl (by decide) (by decide) ⟨b5, rfl, q8, q9, by omega⟩
theorem rm_au38 (G : GL l Z a0 zc dce kdce eed keed mrlh mrum)  : M42 l Z 1 0 0 12 #[.ref pa1] h0 n0 [] (Q8 Z  h0) := by
  refine mi B42 ef1 fun s X0 n0le => ?_
  refine oA 1 X0 d42_0 rfl rfl <| o_initO 4 (W := 0) X0 (w291 G) (w16 G) (w17 G) rfl (by decide) (Nat.le_of_eq rfl) (by decide) d42_1 rfl ?_
  intro _ X2
  exact oz X2 d42_4 rfl (by decide) (by decide) rfl
def Q25 (Z : State) (b1 b2 b3 b4 b5 : Addr) (h0 : Heap) (v : Option Value) (h : Heap) : Prop := v = none ∧ ex8 Z h b1 ∧ fd23 Z h b1 (.ref b2) ∧ fd20 Z h b1 (.ref b3) ∧ fd21 Z h b1 (.ref b4) ∧ fd22 Z h b1 (.ref b5)
theorem rm_au39 (G : GL l Z a0 zc dce kdce eed keed mrlh mrum) (F0 : ex8 Z h0 pa1) (F1 : fd23 Z h0 pa1 .null) (F2 : fd20 Z h0 pa1 .null) (F3 : fd21 Z h0 pa1 .null) (F4 : fd22 Z h0 pa1 .null) (ne : n0 ≤ pa1) : M41 l Z 2 0 0 24 #[.ref pa1, .ref pa2, .ref pa3, .ref pa4, .ref pa5] h0 n0 [pa1] (Q25 Z pa1 pa5 pa2 pa3 pa4 h0) := by
  refine mi B41 ef22 fun s X0 n0le => ?_
  have := F0.l
  refine oA 1 X0 d41_0 rfl rfl <| mP 4 0 X0 (rm_au38 G ) (u39 G) d41_1 rfl rfl rfl lr (by decide) all0 ?_
  rintro _ _ _ X1 rfl K1 _
  refine sk [] rfl <| oA 5 X1 d41_4 rfl rfl <| oA 6 X1 d41_5 rfl rfl ?_
  have f2 := F2.k0 K1
  have f3 := F0.keep K1
  refine oP 9 (v' := (.ref pa2)) X1 (w292 G) Via.refl f2 f3 (Or.inr ⟨(w293 G), rfl, rfl⟩) (w259 G) fd_10 rfl rfl d41_6 rfl (by omega) (Or.inl (by simp)) ?_
  intro _ _ X4 W4
  have := W4.size
  have f5 := f2.same W4
  refine oA 10 X4 d41_9 rfl rfl <| oA 11 X4 d41_10 rfl rfl ?_
  have f6 := (F3.k0 K1).other W4 (Or.inr (sn100 G))
  have f7 := f3.wr W4
  refine oP 14 (v' := (.ref pa3)) X4 (w294 G) Via.refl f6 f7 (Or.inr ⟨(w295 G), rfl, rfl⟩) (w259 G) fd_10 rfl rfl d41_11 rfl (by omega) (Or.inl (by simp)) ?_
  intro _ _ X8 W8
  have := W8.size
  have f9 := f6.same W8
  refine oA 15 X8 d41_14 rfl rfl <| oA 16 X8 d41_15 rfl rfl ?_
  have f10 := ((F4.k0 K1).other W4 (Or.inr (sn101 G))).other W8 (Or.inr (sn102 G))
  have f11 := f7.wr W8
  refine oP 19 (v' := (.ref pa4)) X8 (w296 G) Via.refl f10 f11 (Or.inr ⟨(w297 G), rfl, rfl⟩) (w259 G) fd_10 rfl rfl d41_16 rfl (by omega) (Or.inl (by simp)) ?_
  intro _ _ X12 W12
  have := W12.size
  have f13 := f10.same W12
  refine oA 20 X12 d41_19 rfl rfl <| oa 22 X12 d41_20 rfl rfl ?_
  have f14 := (((F1.k0 K1).other W4 (Or.inr (sn103 G))).other W8 (Or.inr (sn104 G))).other W12 (Or.inr (sn105 G))
  have f15 := f11.wr W12
  refine oP 25 (v' := (.ref pa5)) X12 (w298 G) Via.refl f14 f15 (Or.inr ⟨(w299 G), rfl, rfl⟩) (w259 G) fd_11 rfl rfl d41_22 rfl (by omega) (Or.inl (by simp)) ?_
  intro _ _ X16 W16
  have := W16.size
  have f17 := f14.same W16
  have f18 := f15.wr W16
  have f19 := ((f5.other W8 (Or.inr (sn106 G))).other W12 (Or.inr (sn107 G))).other W16 (Or.inr (sn108 G))
  have f20 := (f9.other W12 (Or.inr (sn109 G))).other W16 (Or.inr (sn110 G))
  have f21 := f13.other W16 (Or.inr (sn111 G))
  exact oz X16 d41_25 rfl (by decide) (by decide) ⟨rfl, f18, f17, f19, f20, f21⟩
def Q26 (Z : State) (b1 b2 b3 b4 b5 b6 : Addr) (h0 : Heap) (v : Option Value) (h : Heap) : Prop := ∃ (xa1 : Addr) (xa2 : Addr) (xa3 : Addr) (xa4 : Addr) (xa5 : Addr) (xk1 : ClassId) (xi1 : Int32), v = some (.ref xa1) ∧ ex1 Z h b1 ∧ fd0 Z h b1 (.int 0) ∧ fd1 Z h b1 (.ref b2) ∧ ex8 Z h xa1 ∧ fd23 Z h xa1 (.ref xa2) ∧ fd20 Z h xa1 (.ref b3) ∧ fd21 Z h xa1 (.ref b4) ∧ fd22 Z h xa1 (.ref b5) ∧ ex7 Z h xa2 ∧ fd24 Z h xa2 (.ref xa3) ∧ ex4 Z h xa3 ∧ fd9 Z h xa3 (.int 0) ∧ fd13 Z h xa3 (.ref xa4) ∧ fd7 Z h xa3 (.float 1061158912) ∧ fd14 Z h xa3 (.int 1) ∧ fd8 Z h xa3 (.int 0) ∧ fd15 Z h xa3 (.int 1) ∧ fd10 Z h xa3 (.ref xa5) ∧ fd12 Z h xa3 (.ref xa4) ∧ fd11 Z h xa3 (.int 12) ∧ ex6 Z h xa4 ∧ fd16 Z h xa4 (.int xi1) ∧ fd17 Z h xa4 (.ref b1) ∧ fd19 Z h xa4 .null ∧ fd18 Z h xa4 (.ref b6) ∧ ex5 Z h xa5 ∧ Ovr Z xk1 "java/util/HashMap$Node" ∧ h0.size ≤ xa1 ∧ h.size > xa1 ∧ h0.size ≤ xa2 ∧ h.size > xa2 ∧ NE xa1 xa2 ∧ h0.size ≤ xa3 ∧ h.size > xa3 ∧ NE xa1 xa3 ∧ NE xa2 xa3 ∧ h0.size ≤ xa4 ∧ h.size > xa4 ∧ NE xa1 xa4 ∧ NE xa2 xa4 ∧ NE xa3 xa4 ∧ h0.size ≤ xa5 ∧ h.size > xa5 ∧ NE xa1 xa5 ∧ NE xa2 xa5 ∧ NE xa3 xa5 ∧ NE xa4 xa5
theorem rm_au40 (G : GL l Z a0 zc dce kdce eed keed mrlh mrum) (F0 : ex2 Z h0 pa4) (F1 : fd5 Z h0 pa4 (.ref pa9)) (F2 : fd6 Z h0 pa4 (.int 1)) (F3 : ex2 Z h0 pa5) (F4 : fd5 Z h0 pa5 (.ref pa10)) (F5 : fd6 Z h0 pa5 (.int 1)) (F6 : av2 Z h0 pa9 pk4 10 [.ref pa11, .null, .null, .null, .null, .null, .null, .null, .null, .null]) (F7 : av2 Z h0 pa10 pk5 10 [.ref pa12, .null, .null, .null, .null, .null, .null, .null, .null, .null]) (F8 : ex1 Z h0 pa11) (F9 : fd0 Z h0 pa11 (.int 0)) (F10 : fd2 Z h0 pa11 (.int 0)) (F11 : fd3 Z h0 pa11 (.int 0)) (F12 : fd1 Z h0 pa11 (.ref pa13)) (F13 : ex1 Z h0 pa12) (F14 : av0 Z h0 pa13 pk6 2 [.int pi7, .int pi8]) (F15 : ex0 Z h0 pa13) (ne : NE pa4 pa11 ∧ NE pa5 pa11 ∧ NE pa9 pa11 ∧ NE pa10 pa11 ∧ NE pa11 pa12 ∧ NE pa11 pa13 ∧ n0 ≤ pa11) : M20 l Z 6 5 42 102 #[.ref pa1, .ref pa2, .ref pa3, .ref pa4, .ref pa5] h0 n0 [pa11] (Q26 Z pa11 pa13 pa1 pa2 pa3 pa12 h0) := by
  refine mi B20 ef14 fun s X0 n0le => ?_
  have l1 := F0.l
  have := F3.l
  have := F6.l
  have := F7.l
  have := F8.l
  have := F13.l
  have := F14.l
  refine o_new 3 X0 (w93 G) (w94 G) (w95 G) d20_0 rfl (by decide) (by decide) ?_
  intro _ h1 b1 X1 _ l1 E1 A1 D1 _
  have f2 : fd7 Z h1 b1 (.float 0) := D1 (Or.inr (w114 G)) fd_5
  have f3 : fd8 Z h1 b1 (.int 0) := D1 (Or.inl (w116 G)) fd_3
  have f4 : fd9 Z h1 b1 (.int 0) := D1 (Or.inr (w118 G)) fd_0
  have f5 : fd10 Z h1 b1 .null := D1 (Or.inl (w196 G)) fd_6
  have f6 : fd11 Z h1 b1 (.int 0) := D1 (Or.inl (w203 G)) fd_3
  have f7 : fd12 Z h1 b1 .null := D1 (Or.inl (w240 G)) fd_7
  have f8 : fd13 Z h1 b1 .null := D1 (Or.inl (w242 G)) fd_7
  have f9 : fd14 Z h1 b1 (.int 0) := D1 (Or.inl (w244 G)) fd_3
  have f10 : fd15 Z h1 b1 (.int 0) := D1 (Or.inl (w246 G)) fd_3
  refine oD 4 X1 d20_3 rfl rfl <| mP 7 1 X1 (rm_au20 G A1 f4 f8 f2 f9 f3 f10 f5 f7 f6 (by omega)) (u20 G) d20_4 rfl rfl rfl lr (by decide) (aR (by omega) all0) ?_
  rintro _ _ _ X11 ⟨rfl, q12, q13, q14, q15, q16, q17, q18, q19, q20, q21⟩ K11 _
  refine sk [.ref b1] rfl <| oU 9 (l' := #[rr pa1, rr pa2, rr pa3, rr pa4, rr pa5, rr b1, uu]) X11 d20_7 rfl rfl rfl <| oc 10 (v := 0) X11 d20_9 rfl (by decide) <| oS 12 (l' := #[rr pa1, rr pa2, rr pa3, rr pa4, rr pa5, rr b1, ii 0]) X11 d20_10 rfl rfl <| oi 14 X11 d20_12 rfl rfl <| oA 15 X11 d20_14 rfl rfl ?_
  have f22 := (F2.ext E1).k1 K11 (by omega)
  have f23 := (F0.ext E1).keep K11
  refine mF 20 1 X11 f23 (rm_au21 G f22) (u21 G) d20_15 rfl rfl rfl lr (by decide) all0 ?_
  rintro _ _ _ X24 rfl K24 _
  refine sk [.int 1, i0] rfl <| oN 23 X24 d20_20 rfl (tlt (by decide)).2.1 <| oa 25 X24 d20_23 rfl rfl <| oA 26 X24 d20_25 rfl rfl <| oi 28 X24 d20_26 rfl rfl ?_
  have f25 := f23.keep K24
  have f26 := ((F1.ext E1).k1 K11 (by omega)).k0 K24
  have f27 := f22.k0 K24
  have f28 := ((F6.ext E1).k1 K11 (by omega)).k0 K24
  refine mF 33 1 X24 f25 (rm_au25 G f25 f26 f27 f28) (u25 G) d20_28 rfl rfl rfl lr (by decide) all0 ?_
  rintro _ _ _ X29 rfl K29 _
  refine sk [.ref pa11, .ref b1] rfl ?_
  have f30 := (((F8.ext E1).keep K11).keep K24).keep K29
  refine o_castY 36 X29 (w149 G) (Ins.self f30) d20_33 rfl ?_
  intro _ X32
  refine oa 38 X32 d20_36 rfl rfl <| oi 40 X32 d20_38 rfl rfl ?_
  have f33 := (((F3.ext E1).keep K11).keep K24).keep K29
  have f34 := (((F4.ext E1).k1 K11 (by omega)).k0 K24).k0 K29
  have f35 := (((F5.ext E1).k1 K11 (by omega)).k0 K24).k0 K29
  have f36 := (((F7.ext E1).k1 K11 (by omega)).k0 K24).k0 K29
  refine mF 45 2 X32 f33 (rm_au25 G f33 f34 f35 f36) (u25 G) d20_40 rfl rfl rfl lr (by decide) all0 ?_
  rintro _ _ _ X37 rfl K37 _
  refine sk [.ref pa12, .ref pa11, .ref b1] rfl ?_
  have f38 := ((((F13.ext E1).keep K11).keep K24).keep K29).keep K37
  refine o_castY 48 X37 (w149 G) (Ins.self f38) d20_45 rfl ?_
  intro _ X40
  have f41 := ((q12.keep K24).keep K29).keep K37
  have f42 := ((q13.k0 K24).k0 K29).k0 K37
  have f43 := ((q14.k0 K24).k0 K29).k0 K37
  have f44 := ((q15.k0 K24).k0 K29).k0 K37
  have f45 := ((q16.k0 K24).k0 K29).k0 K37
  have f46 := ((q17.k0 K24).k0 K29).k0 K37
  have f47 := ((q18.k0 K24).k0 K29).k0 K37
  have f48 := ((q19.k0 K24).k0 K29).k0 K37
  have f49 := ((q20.k0 K24).k0 K29).k0 K37
  have f50 := ((q21.k0 K24).k0 K29).k0 K37
  have f51 := f30.keep K37
  have f52 := ((((F9.ext E1).k1 K11 (by omega)).k0 K24).k0 K29).k0 K37
  have f53 := ((((F10.ext E1).k1 K11 (by omega)).k0 K24).k0 K29).k0 K37
  have f54 := ((((F11.ext E1).k1 K11 (by omega)).k0 K24).k0 K29).k0 K37
  have f55 := ((((F12.ext E1).k1 K11 (by omega)).k0 K24).k0 K29).k0 K37
  have f56 := ((((F14.ext E1).k1 K11 (by omega)).k0 K24).k0 K29).k0 K37
  have f57 := ((((F15.ext E1).keep K11).keep K24).keep K29).keep K37
  refine mF 53 0 X40 f41 (rm_au35 G f41 f42 f43 f44 f45 f46 f47 f48 f49 f50 f51 f52 f53 f54 f55 f56 f57 (by omega)) (u36 G) d20_48 rfl rfl rfl lr (by decide) (aR (by omega) (aI (by omega) (by simp) all0)) ?_
  rintro _ _ _ X58 ⟨xa1_59, xa2_60, xk1_61, xi1_62, rfl, q63, q64, q65, q66, q67, q68, q69, q70, q71, q72, q73, q74, q75, q76, q77, q78, q79, q80, q81, q82, _⟩ K58 _
  refine sk [.null] rfl <| o_pop 54 X58 d20_53 rfl rfl <| oJ 57 1 #[rr pa1, rr pa2, rr pa3, rr pa4, rr pa5, rr b1, ii 1] X58 d20_54 rfl rfl (by decide) rfl <| og 12 X58 d20_57 (by decide) <| oi 14 X58 d20_12 rfl rfl <| oA 15 X58 d20_14 rfl rfl ?_
  have f84 := ((f27.k0 K29).k0 K37).k2 K58 (by omega)
  have f85 := ((f25.keep K29).keep K37).keep K58
  refine mF 20 1 X58 f85 (rm_au21 G f84) (u21 G) d20_15 rfl rfl rfl lr (by decide) all0 ?_
  rintro _ _ _ X86 rfl K86 _
  refine sk [.int 1, .int 1] rfl <| oY 60 X86 d20_20 (by decide) (flt (by decide)).2.1 <| o_new 63 X86 (w258 G) (w259 G) (w91 G) d20_60 rfl (by decide) (by decide) ?_
  intro _ h87 b87 X87 _ _ E87 A87 D87 _
  have f88 : fd20 Z h87 b87 .null := D87 (Or.inr (w293 G)) fd_10
  have f89 : fd21 Z h87 b87 .null := D87 (Or.inr (w295 G)) fd_10
  have f90 : fd22 Z h87 b87 .null := D87 (Or.inr (w297 G)) fd_10
  have f91 : fd23 Z h87 b87 .null := D87 (Or.inr (w299 G)) fd_11
  refine oD 64 X87 d20_63 rfl rfl <| oA 65 X87 d20_64 rfl rfl <| oA 66 X87 d20_65 rfl rfl <| oA 67 X87 d20_66 rfl rfl <| oa 69 X87 d20_67 rfl rfl ?_
  have f92 := (q63.keep K86).ext E87
  refine mS 72 5 X87 (rm_au37 G f92) (u38 G) d20_69 rfl rfl rfl lr (by decide) all0 ?_
  rintro _ _ _ X93 ⟨xa1_94, rfl, q95, q96, _⟩ K93 _
  refine sk [.ref xa1_94, .ref pa3, .ref pa2, .ref pa1, .ref b87, .ref b87] rfl ?_
  have f98 := A87.keep K93
  have f99 := f91.k0 K93
  have f100 := f88.k0 K93
  have f101 := f89.k0 K93
  have f102 := f90.k0 K93
  refine mP 75 1 X93 (rm_au39 G f98 f99 f100 f101 f102 (by omega)) (u40 G) d20_72 rfl rfl rfl lr (by decide) (aR (by omega) all0) ?_
  rintro _ _ _ X103 ⟨rfl, q104, q105, q106, q107, q108⟩ K103 _
  refine sk [.ref b87] rfl ?_
  have f109 := (((q73.keep K86).ext E87).keep K93).keep K103
  have f110 := (((q74.k0 K86).ext E87).k0 K93).k1 K103 (by omega)
  have f111 := (((q75.k0 K86).ext E87).k0 K93).k1 K103 (by omega)
  have f112 := q95.keep K103
  have f113 := q96.k1 K103 (by omega)
  have f114 := (f92.keep K93).keep K103
  have f115 := (((q64.k0 K86).ext E87).k0 K93).k1 K103 (by omega)
  have f116 := (((q65.k0 K86).ext E87).k0 K93).k1 K103 (by omega)
  have f117 := (((q66.k0 K86).ext E87).k0 K93).k1 K103 (by omega)
  have f118 := (((q67.k0 K86).ext E87).k0 K93).k1 K103 (by omega)
  have f119 := (((q68.k0 K86).ext E87).k0 K93).k1 K103 (by omega)
  have f120 := (((q69.k0 K86).ext E87).k0 K93).k1 K103 (by omega)
  have f121 := (((q70.k0 K86).ext E87).k0 K93).k1 K103 (by omega)
  have f122 := (((q71.k0 K86).ext E87).k0 K93).k1 K103 (by omega)
  have f123 := (((q72.k0 K86).ext E87).k0 K93).k1 K103 (by omega)
  have f124 := (((q76.keep K86).ext E87).keep K93).keep K103
  have f125 := (((q77.k0 K86).ext E87).k0 K93).k1 K103 (by omega)
  have f126 := (((q78.k0 K86).ext E87).k0 K93).k1 K103 (by omega)
  have f127 := (((q79.k0 K86).ext E87).k0 K93).k1 K103 (by omega)
  have f128 := (((q80.k0 K86).ext E87).k0 K93).k1 K103 (by omega)
  have f129 := (((q81.keep K86).ext E87).keep K93).keep K103
  exact oR X103 d20_75 rfl rfl rfl (by decide) (by decide) ⟨b87, xa1_94, b1, xa1_59, xa2_60, xk1_61, xi1_62, rfl, f109, f110, f111, q104, q105, q106, q107, q108, f112, f113, f114, f115, f116, f117, f118, f119, f120, f121, f122, f123, f124, f125, f126, f127, f128, f129, q82, by omega⟩
theorem rm_au41 (G : GL l Z a0 zc dce kdce eed keed mrlh mrum) (F0 : fd23 Z h0 pa1 (.ref pa2)) : M43 l Z 0 0 0 0 #[.ref pa1] h0 n0 [] (Q16 Z pa2 h0) := by
  refine mi B43 ef1 fun s X0 n0le => ?_
  have := F0.l
  refine oA 1 X0 d43_0 rfl rfl <| oF 4 X0 (w298 G) Via.refl F0 d43_1 rfl ?_
  intro _ X2
  exact oR X2 d43_4 rfl rfl rfl (by decide) (by decide) rfl
def Q27 (Z : State) (b1 b2 b3 b4 : Addr) (h0 : Heap) (v : Option Value) (h : Heap) : Prop := ∃ (xa1 : Addr), v = some (.ref xa1) ∧ ex8 Z h xa1 ∧ fd23 Z h xa1 (.ref b1) ∧ fd20 Z h xa1 (.ref b2) ∧ fd21 Z h xa1 (.ref b3) ∧ fd22 Z h xa1 (.ref b4) ∧ h0.size ≤ xa1 ∧ h.size > xa1
theorem rm_au42 (G : GL l Z a0 zc dce kdce eed keed mrlh mrum) (F0 : fd23 Z h0 pa1 (.ref pa3)) (F1 : fd20 Z h0 pa1 (.ref pa4)) (F2 : fd21 Z h0 pa1 (.ref pa5)) : M44 l Z 3 1 4 41 #[.ref pa1, .ref pa2] h0 n0 [] (Q27 Z pa3 pa4 pa5 pa2 h0) := by
  refine mi B44 ef6 fun s X0 n0le => ?_
  have l1 := F0.l
  refine o_new 3 X0 (w258 G) (w259 G) (w91 G) d44_0 rfl (by decide) (by decide) ?_
  intro _ h1 b1 X1 _ l1 E1 A1 D1 _
  have f2 : fd20 Z h1 b1 .null := D1 (Or.inr (w293 G)) fd_10
  have f3 : fd21 Z h1 b1 .null := D1 (Or.inr (w295 G)) fd_10
  have f4 : fd22 Z h1 b1 .null := D1 (Or.inr (w297 G)) fd_10
  have f5 : fd23 Z h1 b1 .null := D1 (Or.inr (w299 G)) fd_11
  refine oD 4 X1 d44_3 rfl rfl <| oA 5 X1 d44_4 rfl rfl ?_
  have f6 := F1.ext E1
  refine oF 8 X1 (w292 G) Via.refl f6 d44_5 rfl ?_
  intro _ X8
  refine oA 9 X8 d44_8 rfl rfl ?_
  have f9 := F2.ext E1
  refine oF 12 X8 (w294 G) Via.refl f9 d44_9 rfl ?_
  intro _ X11
  refine oA 13 X11 d44_12 rfl rfl <| oA 14 X11 d44_13 rfl rfl ?_
  have f12 := F0.ext E1
  refine oF 17 X11 (w298 G) Via.refl f12 d44_14 rfl ?_
  intro _ X14
  refine mP 20 1 X14 (rm_au39 G A1 f5 f2 f3 f4 (by omega)) (u40 G) d44_17 rfl rfl rfl lr (by decide) (aR (by omega) all0) ?_
  rintro _ _ _ X15 ⟨rfl, q16, q17, q18, q19, q20⟩ _ _
  refine sk [.ref b1] rfl ?_
  exact oR X15 d44_20 rfl rfl rfl (by decide) (by decide) ⟨b1, rfl, q16, q17, q18, q19, q20, by omega⟩
theorem rm_au43 (G : GL l Z a0 zc dce kdce eed keed mrlh mrum) (F0 : fd20 Z h0 pa1 (.ref pa3)) : M45 l Z 0 0 0 0 #[.ref pa1] h0 n0 [] (Q16 Z pa3 h0) := by
  refine mi B45 ef1 fun s X0 n0le => ?_
  have := F0.l
  refine oA 1 X0 d45_0 rfl rfl <| oF 4 X0 (w292 G) Via.refl F0 d45_1 rfl ?_
  intro _ X2
  exact oR X2 d45_4 rfl rfl rfl (by decide) (by decide) rfl
theorem rm_au44 (G : GL l Z a0 zc dce kdce eed keed mrlh mrum) (F0 : fd21 Z h0 pa1 (.ref pa4)) : M46 l Z 0 0 0 0 #[.ref pa1] h0 n0 [] (Q16 Z pa4 h0) := by
  refine mi B46 ef1 fun s X0 n0le => ?_
  have := F0.l
  refine oA 1 X0 d46_0 rfl rfl <| oF 4 X0 (w294 G) Via.refl F0 d46_1 rfl ?_
  intro _ X2
  exact oR X2 d46_4 rfl rfl rfl (by decide) (by decide) rfl
theorem rm_au45 (G : GL l Z a0 zc dce kdce eed keed mrlh mrum) (F0 : fd22 Z h0 pa1 (.ref pa5)) : M47 l Z 0 0 0 0 #[.ref pa1] h0 n0 [] (Q16 Z pa5 h0) := by
  refine mi B47 ef1 fun s X0 n0le => ?_
  have := F0.l
  refine oA 1 X0 d47_0 rfl rfl <| oF 4 X0 (w296 G) Via.refl F0 d47_1 rfl ?_
  intro _ X2
  exact oR X2 d47_4 rfl rfl rfl (by decide) (by decide) rfl
def Q28 (Z : State) (b1 b2 b3 b4 : Addr) (h0 : Heap) (v : Option Value) (h : Heap) : Prop := v = none ∧ ex8 Z h b1 ∧ fd23 Z h b1 (.ref b2) ∧ fd20 Z h b1 (.ref b3) ∧ fd21 Z h b1 (.ref b4) ∧ fd22 Z h b1 .null
theorem rm_au46 (G : GL l Z a0 zc dce kdce eed keed mrlh mrum) (F0 : ex8 Z h0 pa1) (F1 : fd23 Z h0 pa1 .null) (F2 : fd20 Z h0 pa1 .null) (F3 : fd21 Z h0 pa1 .null) (F4 : fd22 Z h0 pa1 .null) (ne : n0 ≤ pa1) : M41 l Z 2 0 0 24 #[.ref pa1, .ref pa2, .ref pa3, .null, .ref pa4] h0 n0 [pa1] (Q28 Z pa1 pa4 pa2 pa3 h0) := by
  refine mi B41 ef24 fun s X0 n0le => ?_
  have := F0.l
  refine oA 1 X0 d41_0 rfl rfl <| mP 4 0 X0 (rm_au38 G ) (u39 G) d41_1 rfl rfl rfl lr (by decide) all0 ?_
  rintro _ _ _ X1 rfl K1 _
  refine sk [] rfl <| oA 5 X1 d41_4 rfl rfl <| oA 6 X1 d41_5 rfl rfl ?_
  have f2 := F2.k0 K1
  have f3 := F0.keep K1
  refine oP 9 (v' := (.ref pa2)) X1 (w292 G) Via.refl f2 f3 (Or.inr ⟨(w293 G), rfl, rfl⟩) (w259 G) fd_10 rfl rfl d41_6 rfl (by omega) (Or.inl (by simp)) ?_
  intro _ _ X4 W4
  have := W4.size
  have f5 := f2.same W4
  refine oA 10 X4 d41_9 rfl rfl <| oA 11 X4 d41_10 rfl rfl ?_
  have f6 := (F3.k0 K1).other W4 (Or.inr (sn100 G))
  have f7 := f3.wr W4
  refine oP 14 (v' := (.ref pa3)) X4 (w294 G) Via.refl f6 f7 (Or.inr ⟨(w295 G), rfl, rfl⟩) (w259 G) fd_10 rfl rfl d41_11 rfl (by omega) (Or.inl (by simp)) ?_
  intro _ _ X8 W8
  have := W8.size
  have f9 := f6.same W8
  refine oA 15 X8 d41_14 rfl rfl <| o_aloadN 16 X8 d41_15 rfl rfl rfl ?_
  have f10 := ((F4.k0 K1).other W4 (Or.inr (sn101 G))).other W8 (Or.inr (sn102 G))
  have f11 := f7.wr W8
  refine oP 19 (v' := .null) X8 (w296 G) Via.refl f10 f11 (Or.inr ⟨(w297 G), rfl, rfl⟩) (w259 G) fd_10 rfl rfl d41_16 rfl (by omega) (Or.inl (by simp)) ?_
  intro _ _ X12 W12
  have := W12.size
  have f13 := f10.same W12
  refine oA 20 X12 d41_19 rfl rfl <| oa 22 X12 d41_20 rfl rfl ?_
  have f14 := (((F1.k0 K1).other W4 (Or.inr (sn103 G))).other W8 (Or.inr (sn104 G))).other W12 (Or.inr (sn105 G))
  have f15 := f11.wr W12
  refine oP 25 (v' := (.ref pa4)) X12 (w298 G) Via.refl f14 f15 (Or.inr ⟨(w299 G), rfl, rfl⟩) (w259 G) fd_11 rfl rfl d41_22 rfl (by omega) (Or.inl (by simp)) ?_
  intro _ _ X16 W16
  have := W16.size
  have f17 := f14.same W16
  have f18 := f15.wr W16
  have f19 := ((f5.other W8 (Or.inr (sn106 G))).other W12 (Or.inr (sn107 G))).other W16 (Or.inr (sn108 G))
  have f20 := (f9.other W12 (Or.inr (sn109 G))).other W16 (Or.inr (sn110 G))
  have f21 := f13.other W16 (Or.inr (sn111 G))
  exact oz X16 d41_25 rfl (by decide) (by decide) ⟨rfl, f18, f17, f19, f20, f21⟩
def Q29 (Z : State) (b1 b2 b3 : Addr) (h0 : Heap) (v : Option Value) (h : Heap) : Prop := ∃ (xa1 : Addr), v = some (.ref xa1) ∧ ex8 Z h xa1 ∧ fd23 Z h xa1 (.ref b1) ∧ fd20 Z h xa1 (.ref b2) ∧ fd21 Z h xa1 (.ref b3) ∧ fd22 Z h xa1 .null ∧ h0.size ≤ xa1 ∧ h.size > xa1
theorem rm_au47 (G : GL l Z a0 zc dce kdce eed keed mrlh mrum) (F0 : fd23 Z h0 pa1 (.ref pa2)) (F1 : fd20 Z h0 pa1 (.ref pa3)) (F2 : fd21 Z h0 pa1 (.ref pa4)) : M44 l Z 3 1 4 41 #[.ref pa1, .null] h0 n0 [] (Q29 Z pa2 pa3 pa4 h0) := by
  refine mi B44 ef23 fun s X0 n0le => ?_
  have l1 := F0.l
  refine o_new 3 X0 (w258 G) (w259 G) (w91 G) d44_0 rfl (by decide) (by decide) ?_
  intro _ h1 b1 X1 _ l1 E1 A1 D1 _
  have f2 : fd20 Z h1 b1 .null := D1 (Or.inr (w293 G)) fd_10
  have f3 : fd21 Z h1 b1 .null := D1 (Or.inr (w295 G)) fd_10
  have f4 : fd22 Z h1 b1 .null := D1 (Or.inr (w297 G)) fd_10
  have f5 : fd23 Z h1 b1 .null := D1 (Or.inr (w299 G)) fd_11
  refine oD 4 X1 d44_3 rfl rfl <| oA 5 X1 d44_4 rfl rfl ?_
  have f6 := F1.ext E1
  refine oF 8 X1 (w292 G) Via.refl f6 d44_5 rfl ?_
  intro _ X8
  refine oA 9 X8 d44_8 rfl rfl ?_
  have f9 := F2.ext E1
  refine oF 12 X8 (w294 G) Via.refl f9 d44_9 rfl ?_
  intro _ X11
  refine o_aloadN 13 X11 d44_12 rfl rfl rfl <| oA 14 X11 d44_13 rfl rfl ?_
  have f12 := F0.ext E1
  refine oF 17 X11 (w298 G) Via.refl f12 d44_14 rfl ?_
  intro _ X14
  refine mP 20 1 X14 (rm_au46 G A1 f5 f2 f3 f4 (by omega)) (u40 G) d44_17 rfl rfl rfl lr (by decide) (aR (by omega) all0) ?_
  rintro _ _ _ X15 ⟨rfl, q16, q17, q18, q19, q20⟩ _ _
  refine sk [.ref b1] rfl ?_
  exact oR X15 d44_20 rfl rfl rfl (by decide) (by decide) ⟨b1, rfl, q16, q17, q18, q19, q20, by omega⟩
def Q30 (Z : State) (h0 : Heap) (v : Option Value) (h : Heap) : Prop := v = some .null
theorem rm_au48 (G : GL l Z a0 zc dce kdce eed keed mrlh mrum) (F0 : fd22 Z h0 pa1 .null) : M47 l Z 0 0 0 0 #[.ref pa1] h0 n0 [] (Q30 Z  h0) := by
  refine mi B47 ef1 fun s X0 n0le => ?_
  have := F0.l
  refine oA 1 X0 d47_0 rfl rfl <| oF 4 X0 (w296 G) Via.refl F0 d47_1 rfl ?_
  intro _ X2
  exact oR X2 d47_4 rfl rfl rfl (by decide) (by decide) rfl
theorem rm_law (G : GL l Z a0 zc dce kdce eed keed mrlh mrum) (wl : List Jvm.Cond) (p1 p2 p3 p4 p5 : Int32) {h0 : Heap} {n0 : Nat}  :
    Old Z n0 h0 → Met l x code maxLocals ret wl room_1 Z #[.int p1, .int p2, .int p3, .int p4, .int p5] h0 n0 [] (Q0 Z  h0) := by
  refine mi B5 ef4 fun s X0 n0le => ?_
  refine oI 1 X0 at_0 rfl rfl <| mS 4 0 X0 (rm_au9 G ) (u9 G) at_1 rfl rfl rfl lr (by decide) all0 ?_
  rintro _ _ _ X1 ⟨xa1_2, _, _, _, _, rfl, _, _, _, _, _, _, _, _⟩ _ _
  refine sk [.ref xa1_2] rfl <| oU 6 (l' := #[ii p1, ii p2, ii p3, ii p4, ii p5, rr xa1_2, uu, uu, uu, uu, uu, uu, uu, uu]) X1 at_4 rfl rfl rfl <| oI 7 X1 at_6 rfl rfl <| mS 10 0 X1 (rm_au9 G ) (u9 G) at_7 rfl rfl rfl lr (by decide) all0 ?_
  rintro _ _ _ X15 ⟨xa1_16, _, _, _, _, rfl, _, _, _, _, _, _, _, _⟩ _ _
  refine sk [.ref xa1_16] rfl <| oU 12 (l' := #[ii p1, ii p2, ii p3, ii p4, ii p5, rr xa1_2, rr xa1_16, uu, uu, uu, uu, uu, uu, uu]) X15 at_10 rfl rfl rfl <| oI 13 X15 at_12 rfl rfl <| ob 15 (v := 16) X15 at_13 rfl (by decide) <| o_iushr 16 (v := ((p3.toUInt32 >>> ((16 : Int32) &&& 31).toUInt32).toInt32)) X15 at_15 rfl rfl <| oc 17 (v := 1) X15 at_16 rfl (by decide) <| o_iand 18 (v := (((p3.toUInt32 >>> ((16 : Int32) &&& 31).toUInt32).toInt32) &&& (1 : Int32))) X15 at_17 rfl rfl ?_
  by_cases hc29 : (((p3.toUInt32 >>> ((16 : Int32) &&& 31).toUInt32).toInt32) &&& (1 : Int32)) = (0 : Int32)
  · refine oy 25 X15 at_18 (by decide) ((if0 _ _).trans (teq hc29).1) <| oI 26 X15 at_25 rfl rfl <| mS 29 0 X15 (rm_au9 G ) (u9 G) at_26 rfl rfl rfl lr (by decide) all0 ?_
    rintro _ _ _ X30 ⟨xa1_31, _, _, _, _, rfl, _, _, _, _, _, _, _, _⟩ _ _
    refine sk [.ref xa1_31] rfl <| oU 31 (l' := #[ii p1, ii p2, ii p3, ii p4, ii p5, rr xa1_2, rr xa1_16, rr xa1_31, uu, uu, uu, uu, uu, uu]) X30 at_29 rfl rfl rfl <| oI 32 X30 at_31 rfl rfl <| ob 34 (v := 16) X30 at_32 rfl (by decide) <| o_iushr 35 (v := ((p4.toUInt32 >>> ((16 : Int32) &&& 31).toUInt32).toInt32)) X30 at_34 rfl rfl <| oc 36 (v := 1) X30 at_35 rfl (by decide) <| o_iand 37 (v := (((p4.toUInt32 >>> ((16 : Int32) &&& 31).toUInt32).toInt32) &&& (1 : Int32))) X30 at_36 rfl rfl ?_
    by_cases hc44 : (((p4.toUInt32 >>> ((16 : Int32) &&& 31).toUInt32).toInt32) &&& (1 : Int32)) = (0 : Int32)
    · refine oy 44 X30 at_37 (by decide) ((if0 _ _).trans (teq hc44).1) <| oI 45 X30 at_44 rfl rfl <| mS 48 0 X30 (rm_au9 G ) (u9 G) at_45 rfl rfl rfl lr (by decide) all0 ?_
      rintro _ _ _ X45 ⟨xa1_46, _, _, _, _, rfl, _, _, _, _, _, _, _, _⟩ _ _
      refine sk [.ref xa1_46] rfl <| oU 50 (l' := #[ii p1, ii p2, ii p3, ii p4, ii p5, rr xa1_2, rr xa1_16, rr xa1_31, rr xa1_46, uu, uu, uu, uu, uu]) X45 at_48 rfl rfl rfl <| o_new 53 X45 (w34 G) (w35 G) (w36 G) at_50 rfl (by decide) (by decide) ?_
      intro _ h59 b59 X59 _ _ _ A59 D59 _
      have f60 : fd4 Z h59 b59 (.int 0) := D59 (Or.inl (w54 G)) fd_3
      have f61 : fd5 Z h59 b59 .null := D59 (Or.inl (w57 G)) fd_4
      have f62 : fd6 Z h59 b59 (.int 0) := D59 (Or.inl (w66 G)) fd_3
      refine oD 54 X59 at_53 rfl rfl <| mP 57 1 X59 (rm_au12 G A59 f61 f60 f62 (by omega)) (u12 G) at_54 rfl rfl rfl lr (by decide) (aR (by omega) all0) ?_
      rintro _ _ _ X63 ⟨rfl, q64, q65, q66, q67⟩ _ _
      refine sk [.ref b59] rfl <| oU 59 (l' := #[ii p1, ii p2, ii p3, ii p4, ii p5, rr xa1_2, rr xa1_16, rr xa1_31, rr xa1_46, rr b59, uu, uu, uu, uu]) X63 at_57 rfl rfl rfl <| oa 61 X63 at_59 rfl rfl <| oi 63 X63 at_61 rfl rfl <| mS 66 1 X63 (rm_au9 G ) (u9 G) at_63 rfl rfl rfl lr (by decide) all0 ?_
      rintro _ _ _ X68 ⟨xa1_69, _, _, _, _, rfl, q74, q75, q76, q77, q78, q79, q80, _⟩ K68 _
      refine sk [.ref xa1_69, .ref b59] rfl ?_
      have f82 := q64.keep K68
      have f83 := q65.k0 K68
      have f84 := q66.k0 K68
      have f85 := q67.k0 K68
      refine mV 69 0 X68 f82 (rm_au17 G f82 f83 f84 f85 q74 (by omega)) (u17 G) at_66 rfl rfl rfl lr (by decide) (aR (by omega) all0) ?_
      rintro _ _ _ X86 ⟨_, _, rfl, q89, q90, _, q92, q93, _, _, _⟩ K86 _
      refine sk [.int 1] rfl <| o_pop 70 X86 at_69 rfl rfl <| o_new 73 X86 (w34 G) (w35 G) (w36 G) at_70 rfl (by decide) (by decide) ?_
      intro _ h97 b97 X97 _ _ E97 A97 D97 _
      have f98 : fd4 Z h97 b97 (.int 0) := D97 (Or.inl (w54 G)) fd_3
      have f99 : fd5 Z h97 b97 .null := D97 (Or.inl (w57 G)) fd_4
      have f100 : fd6 Z h97 b97 (.int 0) := D97 (Or.inl (w66 G)) fd_3
      refine oD 74 X97 at_73 rfl rfl <| mP 77 1 X97 (rm_au12 G A97 f99 f98 f100 (by omega)) (u12 G) at_74 rfl rfl rfl lr (by decide) (aR (by omega) all0) ?_
      rintro _ _ _ X101 ⟨rfl, q102, q103, q104, q105⟩ K101 _
      refine sk [.ref b97] rfl <| oU 79 (l' := #[ii p1, ii p2, ii p3, ii p4, ii p5, rr xa1_2, rr xa1_16, rr xa1_31, rr xa1_46, rr b59, rr b97, uu, uu, uu]) X101 at_77 rfl rfl rfl <| oa 81 X101 at_79 rfl rfl <| oi 83 X101 at_81 rfl rfl <| ob 85 (v := 16) X101 at_83 rfl (by decide) <| o_iushr 86 (v := ((p5.toUInt32 >>> ((16 : Int32) &&& 31).toUInt32).toInt32)) X101 at_85 rfl rfl <| mS 89 1 X101 (rm_au9 G ) (u9 G) at_86 rfl rfl rfl lr (by decide) all0 ?_
      rintro _ _ _ X106 ⟨xa1_107, _, _, _, _, rfl, q112, _, _, _, _, _, _, _⟩ K106 _
      refine sk [.ref xa1_107, .ref b97] rfl ?_
      have f120 := q102.keep K106
      have f121 := q103.k0 K106
      have f122 := q104.k0 K106
      have f123 := q105.k0 K106
      refine mV 92 0 X106 f120 (rm_au17 G f120 f121 f122 f123 q112 (by omega)) (u17 G) at_89 rfl rfl rfl lr (by decide) (aR (by omega) all0) ?_
      rintro _ _ _ X124 ⟨_, _, rfl, q127, q128, _, q130, q131, _, _, _⟩ K124 _
      refine sk [.int 1] rfl <| o_pop 93 X124 at_92 rfl rfl <| oI 94 X124 at_93 rfl rfl <| ob 96 (v := 16) X124 at_94 rfl (by decide) <| o_iushr 97 (v := ((p1.toUInt32 >>> ((16 : Int32) &&& 31).toUInt32).toInt32)) X124 at_96 rfl rfl <| mS 100 0 X124 (rm_au9 G ) (u9 G) at_97 rfl rfl rfl lr (by decide) all0 ?_
      rintro _ _ _ X135 ⟨xa1_136, _, _, _, _, rfl, _, _, _, _, _, _, _, _⟩ K135 _
      refine sk [.ref xa1_136] rfl <| oI 101 X135 at_100 rfl rfl <| ob 103 (v := 16) X135 at_101 rfl (by decide) <| o_iushr 104 (v := ((p2.toUInt32 >>> ((16 : Int32) &&& 31).toUInt32).toInt32)) X135 at_103 rfl rfl <| mS 107 1 X135 (rm_au9 G ) (u9 G) at_104 rfl rfl rfl lr (by decide) all0 ?_
      rintro _ _ _ X149 ⟨xa1_150, _, _, _, _, rfl, _, _, _, _, _, _, _, _⟩ K149 _
      refine sk [.ref xa1_150, .ref xa1_136] rfl <| oI 108 X149 at_107 rfl rfl <| ob 110 (v := 17) X149 at_108 rfl (by decide) <| o_iushr 111 (v := ((p3.toUInt32 >>> ((17 : Int32) &&& 31).toUInt32).toInt32)) X149 at_110 rfl rfl <| mS 114 2 X149 (rm_au9 G ) (u9 G) at_111 rfl rfl rfl lr (by decide) all0 ?_
      rintro _ _ _ X163 ⟨xa1_164, _, _, _, _, rfl, _, _, _, _, _, _, _, _⟩ K163 _
      refine sk [.ref xa1_164, .ref xa1_150, .ref xa1_136] rfl <| oa 116 X163 at_114 rfl rfl <| oa 118 X163 at_116 rfl rfl ?_
      have f177 := ((((((q89.ext E97).keep K101).keep K106).keep K124).keep K135).keep K149).keep K163
      have f178 := ((((((q90.ext E97).k1 K101 (by omega)).k0 K106).k1 K124 (by omega)).k0 K135).k0 K149).k0 K163
      have f179 := ((((((q92.ext E97).k1 K101 (by omega)).k0 K106).k1 K124 (by omega)).k0 K135).k0 K149).k0 K163
      have f180 := ((q127.keep K135).keep K149).keep K163
      have f181 := ((q128.k0 K135).k0 K149).k0 K163
      have f182 := ((q130.k0 K135).k0 K149).k0 K163
      have f183 := ((((((q93.ext E97).k1 K101 (by omega)).k0 K106).k1 K124 (by omega)).k0 K135).k0 K149).k0 K163
      have f184 := ((q131.k0 K135).k0 K149).k0 K163
      have f185 := (((((((q74.keep K86).ext E97).keep K101).keep K106).keep K124).keep K135).keep K149).keep K163
      have f186 := (((((((q75.k1 K86 (by omega)).ext E97).k1 K101 (by omega)).k0 K106).k1 K124 (by omega)).k0 K135).k0 K149).k0 K163
      have f187 := (((((((q76.k1 K86 (by omega)).ext E97).k1 K101 (by omega)).k0 K106).k1 K124 (by omega)).k0 K135).k0 K149).k0 K163
      have f188 := (((((((q77.k1 K86 (by omega)).ext E97).k1 K101 (by omega)).k0 K106).k1 K124 (by omega)).k0 K135).k0 K149).k0 K163
      have f189 := (((((((q78.k1 K86 (by omega)).ext E97).k1 K101 (by omega)).k0 K106).k1 K124 (by omega)).k0 K135).k0 K149).k0 K163
      have f190 := (((q112.keep K124).keep K135).keep K149).keep K163
      have f191 := (((((((q79.k1 K86 (by omega)).ext E97).k1 K101 (by omega)).k0 K106).k1 K124 (by omega)).k0 K135).k0 K149).k0 K163
      have f192 := (((((((q80.keep K86).ext E97).keep K101).keep K106).keep K124).keep K135).keep K149).keep K163
      refine mS 121 0 X163 (rm_au40 G f177 f178 f179 f180 f181 f182 f183 f184 f185 f186 f187 f188 f189 f190 f191 f192 (by omega)) (u41 G) at_118 rfl rfl rfl lr (by decide) (aR (by omega) all0) ?_
      rintro _ _ _ X193 ⟨xa1_194, xa2_195, _, _, _, _, _, rfl, _, _, _, q204, q205, _, _, _, _, _, _, _, _, _, _, _, _, _, _, _, _, _, _, _, _, _, _, _⟩ _ _
      refine sk [.ref xa1_194] rfl <| mV 124 0 X193 q204 (rm_au41 G q205) (u42 G) at_121 rfl rfl rfl lr (by decide) all0 ?_
      rintro _ _ _ X229 rfl _ _
      refine sk [.ref xa2_195] rfl <| oU 126 (l' := #[ii p1, ii p2, ii p3, ii p4, ii p5, rr xa1_2, rr xa1_16, rr xa1_31, rr xa1_46, rr b59, rr b97, rr xa2_195, uu, uu]) X229 at_124 rfl rfl rfl <| o_new 129 X229 (w305 G) (w259 G) (w91 G) at_126 rfl (by decide) (by decide) ?_
      intro _ h230 b230 X230 _ _ _ A230 D230 _
      have f231 : fd20 Z h230 b230 .null := D230 (Or.inr (w293 G)) fd_10
      have f232 : fd21 Z h230 b230 .null := D230 (Or.inr (w295 G)) fd_10
      have f233 : fd22 Z h230 b230 .null := D230 (Or.inr (w297 G)) fd_10
      have f234 : fd23 Z h230 b230 .null := D230 (Or.inr (w299 G)) fd_11
      refine oD 130 X230 at_129 rfl rfl <| oa 132 X230 at_130 rfl rfl <| oa 134 X230 at_132 rfl rfl <| oa 136 X230 at_134 rfl rfl <| oa 138 X230 at_136 rfl rfl <| mP 141 1 X230 (rm_au39 G A230 f234 f231 f232 f233 (by omega)) (u43 G) at_138 rfl rfl rfl lr (by decide) (aR (by omega) all0) ?_
      rintro _ _ _ X235 ⟨rfl, q236, q237, q238, q239, q240⟩ _ _
      refine sk [.ref b230] rfl <| oU 143 (l' := #[ii p1, ii p2, ii p3, ii p4, ii p5, rr xa1_2, rr xa1_16, rr xa1_31, rr xa1_46, rr b59, rr b97, rr xa2_195, rr b230, uu]) X235 at_141 rfl rfl rfl <| oa 145 X235 at_143 rfl rfl <| oa 147 X235 at_145 rfl rfl <| mV 150 0 X235 q236 (rm_au42 G q237 q238 q239) (u44 G) at_147 rfl rfl rfl lr (by decide) all0 ?_
      rintro _ _ _ X241 ⟨xa1_242, rfl, q243, q244, q245, q246, q247, _⟩ K241 _
      refine sk [.ref xa1_242] rfl <| oU 152 (l' := #[ii p1, ii p2, ii p3, ii p4, ii p5, rr xa1_2, rr xa1_16, rr xa1_31, rr xa1_46, rr b59, rr b97, rr xa2_195, rr b230, rr xa1_242]) X241 at_150 rfl rfl rfl <| oa 154 X241 at_152 rfl rfl <| mV 157 0 X241 q243 (rm_au43 G q245) (u45 G) at_154 rfl rfl rfl lr (by decide) all0 ?_
      rintro _ _ _ X249 rfl K249 _
      refine sk [.ref xa1_2] rfl <| oa 159 X249 at_157 rfl rfl <| o_acmp 162 (same := true) X249 at_159 rfl rfl (decide_eq_true rfl) (by decide) (by decide) <| oa 164 X249 at_162 rfl rfl ?_
      have f250 := q246.k0 K249
      have f251 := q243.keep K249
      refine mV 167 0 X249 f251 (rm_au44 G f250) (u46 G) at_164 rfl rfl rfl lr (by decide) all0 ?_
      rintro _ _ _ X252 rfl K252 _
      refine sk [.ref xa1_16] rfl <| oa 169 X252 at_167 rfl rfl <| o_acmp 172 (same := true) X252 at_169 rfl rfl (decide_eq_true rfl) (by decide) (by decide) <| oa 174 X252 at_172 rfl rfl ?_
      have f253 := (q247.k0 K249).k0 K252
      have f254 := f251.keep K252
      refine mV 177 0 X252 f254 (rm_au45 G f253) (u47 G) at_174 rfl rfl rfl lr (by decide) all0 ?_
      rintro _ _ _ X255 rfl K255 _
      refine sk [.ref xa1_46] rfl <| oa 179 X255 at_177 rfl rfl <| o_acmp 182 (same := true) X255 at_179 rfl rfl (decide_eq_true rfl) (by decide) (by decide) <| oa 184 X255 at_182 rfl rfl ?_
      have f256 := ((q244.k0 K249).k0 K252).k0 K255
      have f257 := f254.keep K255
      refine mV 187 0 X255 f257 (rm_au41 G f256) (u42 G) at_184 rfl rfl rfl lr (by decide) all0 ?_
      rintro _ _ _ X258 rfl K258 _
      refine sk [.ref xa2_195] rfl <| oa 189 X258 at_187 rfl rfl <| o_acmp 192 (same := true) X258 at_189 rfl rfl (decide_eq_true rfl) (by decide) (by decide) <| oa 194 X258 at_192 rfl rfl ?_
      have f259 := ((((q240.k0 K241).k0 K249).k0 K252).k0 K255).k0 K258
      have f260 := ((((q236.keep K241).keep K249).keep K252).keep K255).keep K258
      refine mV 197 0 X258 f260 (rm_au45 G f259) (u47 G) at_194 rfl rfl rfl lr (by decide) all0 ?_
      rintro _ _ _ X261 rfl _ _
      refine sk [.ref xa1_31] rfl <| oa 199 X261 at_197 rfl rfl <| o_acmp 202 (same := true) X261 at_199 rfl rfl (decide_eq_true rfl) (by decide) (by decide) <| oc 203 (v := 1) X261 at_202 rfl (by decide) <| og 207 X261 at_203 (by decide) ?_
      exact o_nret (y := (1 : Int32)) (t := .boolean) X261 at_207 rfl (by decide) (by simp) (by decide) (by decide) rfl
    · refine on 40 X30 at_37 rfl ((if0 _ _).trans (feq hc44).1) <| o_aconstNull 41 X30 at_40 rfl <| og 48 X30 at_41 (by decide) <| oU 50 (l' := #[ii p1, ii p2, ii p3, ii p4, ii p5, rr xa1_2, rr xa1_16, rr xa1_31, .val .null, uu, uu, uu, uu, uu]) X30 at_48 rfl rfl rfl <| o_new 53 X30 (w34 G) (w35 G) (w36 G) at_50 rfl (by decide) (by decide) ?_
      intro _ h262 b262 X262 _ _ _ A262 D262 _
      have f263 : fd4 Z h262 b262 (.int 0) := D262 (Or.inl (w54 G)) fd_3
      have f264 : fd5 Z h262 b262 .null := D262 (Or.inl (w57 G)) fd_4
      have f265 : fd6 Z h262 b262 (.int 0) := D262 (Or.inl (w66 G)) fd_3
      refine oD 54 X262 at_53 rfl rfl <| mP 57 1 X262 (rm_au12 G A262 f264 f263 f265 (by omega)) (u12 G) at_54 rfl rfl rfl lr (by decide) (aR (by omega) all0) ?_
      rintro _ _ _ X266 ⟨rfl, q267, q268, q269, q270⟩ _ _
      refine sk [.ref b262] rfl <| oU 59 (l' := #[ii p1, ii p2, ii p3, ii p4, ii p5, rr xa1_2, rr xa1_16, rr xa1_31, .val .null, rr b262, uu, uu, uu, uu]) X266 at_57 rfl rfl rfl <| oa 61 X266 at_59 rfl rfl <| oi 63 X266 at_61 rfl rfl <| mS 66 1 X266 (rm_au9 G ) (u9 G) at_63 rfl rfl rfl lr (by decide) all0 ?_
      rintro _ _ _ X271 ⟨xa1_272, _, _, _, _, rfl, q277, q278, q279, q280, q281, q282, q283, _⟩ K271 _
      refine sk [.ref xa1_272, .ref b262] rfl ?_
      have f285 := q267.keep K271
      have f286 := q268.k0 K271
      have f287 := q269.k0 K271
      have f288 := q270.k0 K271
      refine mV 69 0 X271 f285 (rm_au17 G f285 f286 f287 f288 q277 (by omega)) (u17 G) at_66 rfl rfl rfl lr (by decide) (aR (by omega) all0) ?_
      rintro _ _ _ X289 ⟨_, _, rfl, q292, q293, _, q295, q296, _, _, _⟩ K289 _
      refine sk [.int 1] rfl <| o_pop 70 X289 at_69 rfl rfl <| o_new 73 X289 (w34 G) (w35 G) (w36 G) at_70 rfl (by decide) (by decide) ?_
      intro _ h300 b300 X300 _ _ E300 A300 D300 _
      have f301 : fd4 Z h300 b300 (.int 0) := D300 (Or.inl (w54 G)) fd_3
      have f302 : fd5 Z h300 b300 .null := D300 (Or.inl (w57 G)) fd_4
      have f303 : fd6 Z h300 b300 (.int 0) := D300 (Or.inl (w66 G)) fd_3
      refine oD 74 X300 at_73 rfl rfl <| mP 77 1 X300 (rm_au12 G A300 f302 f301 f303 (by omega)) (u12 G) at_74 rfl rfl rfl lr (by decide) (aR (by omega) all0) ?_
      rintro _ _ _ X304 ⟨rfl, q305, q306, q307, q308⟩ K304 _
      refine sk [.ref b300] rfl <| oU 79 (l' := #[ii p1, ii p2, ii p3, ii p4, ii p5, rr xa1_2, rr xa1_16, rr xa1_31, .val .null, rr b262, rr b300, uu, uu, uu]) X304 at_77 rfl rfl rfl <| oa 81 X304 at_79 rfl rfl <| oi 83 X304 at_81 rfl rfl <| ob 85 (v := 16) X304 at_83 rfl (by decide) <| o_iushr 86 (v := ((p5.toUInt32 >>> ((16 : Int32) &&& 31).toUInt32).toInt32)) X304 at_85 rfl rfl <| mS 89 1 X304 (rm_au9 G ) (u9 G) at_86 rfl rfl rfl lr (by decide) all0 ?_
      rintro _ _ _ X309 ⟨xa1_310, _, _, _, _, rfl, q315, _, _, _, _, _, _, _⟩ K309 _
      refine sk [.ref xa1_310, .ref b300] rfl ?_
      have f323 := q305.keep K309
      have f324 := q306.k0 K309
      have f325 := q307.k0 K309
      have f326 := q308.k0 K309
      refine mV 92 0 X309 f323 (rm_au17 G f323 f324 f325 f326 q315 (by omega)) (u17 G) at_89 rfl rfl rfl lr (by decide) (aR (by omega) all0) ?_
      rintro _ _ _ X327 ⟨_, _, rfl, q330, q331, _, q333, q334, _, _, _⟩ K327 _
      refine sk [.int 1] rfl <| o_pop 93 X327 at_92 rfl rfl <| oI 94 X327 at_93 rfl rfl <| ob 96 (v := 16) X327 at_94 rfl (by decide) <| o_iushr 97 (v := ((p1.toUInt32 >>> ((16 : Int32) &&& 31).toUInt32).toInt32)) X327 at_96 rfl rfl <| mS 100 0 X327 (rm_au9 G ) (u9 G) at_97 rfl rfl rfl lr (by decide) all0 ?_
      rintro _ _ _ X338 ⟨xa1_339, _, _, _, _, rfl, _, _, _, _, _, _, _, _⟩ K338 _
      refine sk [.ref xa1_339] rfl <| oI 101 X338 at_100 rfl rfl <| ob 103 (v := 16) X338 at_101 rfl (by decide) <| o_iushr 104 (v := ((p2.toUInt32 >>> ((16 : Int32) &&& 31).toUInt32).toInt32)) X338 at_103 rfl rfl <| mS 107 1 X338 (rm_au9 G ) (u9 G) at_104 rfl rfl rfl lr (by decide) all0 ?_
      rintro _ _ _ X352 ⟨xa1_353, _, _, _, _, rfl, _, _, _, _, _, _, _, _⟩ K352 _
      refine sk [.ref xa1_353, .ref xa1_339] rfl <| oI 108 X352 at_107 rfl rfl <| ob 110 (v := 17) X352 at_108 rfl (by decide) <| o_iushr 111 (v := ((p3.toUInt32 >>> ((17 : Int32) &&& 31).toUInt32).toInt32)) X352 at_110 rfl rfl <| mS 114 2 X352 (rm_au9 G ) (u9 G) at_111 rfl rfl rfl lr (by decide) all0 ?_
      rintro _ _ _ X366 ⟨xa1_367, _, _, _, _, rfl, _, _, _, _, _, _, _, _⟩ K366 _
      refine sk [.ref xa1_367, .ref xa1_353, .ref xa1_339] rfl <| oa 116 X366 at_114 rfl rfl <| oa 118 X366 at_116 rfl rfl ?_
      have f380 := ((((((q292.ext E300).keep K304).keep K309).keep K327).keep K338).keep K352).keep K366
      have f381 := ((((((q293.ext E300).k1 K304 (by omega)).k0 K309).k1 K327 (by omega)).k0 K338).k0 K352).k0 K366
      have f382 := ((((((q295.ext E300).k1 K304 (by omega)).k0 K309).k1 K327 (by omega)).k0 K338).k0 K352).k0 K366
      have f383 := ((q330.keep K338).keep K352).keep K366
      have f384 := ((q331.k0 K338).k0 K352).k0 K366
      have f385 := ((q333.k0 K338).k0 K352).k0 K366
      have f386 := ((((((q296.ext E300).k1 K304 (by omega)).k0 K309).k1 K327 (by omega)).k0 K338).k0 K352).k0 K366
      have f387 := ((q334.k0 K338).k0 K352).k0 K366
      have f388 := (((((((q277.keep K289).ext E300).keep K304).keep K309).keep K327).keep K338).keep K352).keep K366
      have f389 := (((((((q278.k1 K289 (by omega)).ext E300).k1 K304 (by omega)).k0 K309).k1 K327 (by omega)).k0 K338).k0 K352).k0 K366
      have f390 := (((((((q279.k1 K289 (by omega)).ext E300).k1 K304 (by omega)).k0 K309).k1 K327 (by omega)).k0 K338).k0 K352).k0 K366
      have f391 := (((((((q280.k1 K289 (by omega)).ext E300).k1 K304 (by omega)).k0 K309).k1 K327 (by omega)).k0 K338).k0 K352).k0 K366
      have f392 := (((((((q281.k1 K289 (by omega)).ext E300).k1 K304 (by omega)).k0 K309).k1 K327 (by omega)).k0 K338).k0 K352).k0 K366
      have f393 := (((q315.keep K327).keep K338).keep K352).keep K366
      have f394 := (((((((q282.k1 K289 (by omega)).ext E300).k1 K304 (by omega)).k0 K309).k1 K327 (by omega)).k0 K338).k0 K352).k0 K366
      have f395 := (((((((q283.keep K289).ext E300).keep K304).keep K309).keep K327).keep K338).keep K352).keep K366
      refine mS 121 0 X366 (rm_au40 G f380 f381 f382 f383 f384 f385 f386 f387 f388 f389 f390 f391 f392 f393 f394 f395 (by omega)) (u41 G) at_118 rfl rfl rfl lr (by decide) (aR (by omega) all0) ?_
      rintro _ _ _ X396 ⟨xa1_397, xa2_398, _, _, _, _, _, rfl, _, _, _, q407, q408, _, _, _, _, _, _, _, _, _, _, _, _, _, _, _, _, _, _, _, _, _, _, _⟩ _ _
      refine sk [.ref xa1_397] rfl <| mV 124 0 X396 q407 (rm_au41 G q408) (u42 G) at_121 rfl rfl rfl lr (by decide) all0 ?_
      rintro _ _ _ X432 rfl _ _
      refine sk [.ref xa2_398] rfl <| oU 126 (l' := #[ii p1, ii p2, ii p3, ii p4, ii p5, rr xa1_2, rr xa1_16, rr xa1_31, .val .null, rr b262, rr b300, rr xa2_398, uu, uu]) X432 at_124 rfl rfl rfl <| o_new 129 X432 (w305 G) (w259 G) (w91 G) at_126 rfl (by decide) (by decide) ?_
      intro _ h433 b433 X433 _ _ _ A433 D433 _
      have f434 : fd20 Z h433 b433 .null := D433 (Or.inr (w293 G)) fd_10
      have f435 : fd21 Z h433 b433 .null := D433 (Or.inr (w295 G)) fd_10
      have f436 : fd22 Z h433 b433 .null := D433 (Or.inr (w297 G)) fd_10
      have f437 : fd23 Z h433 b433 .null := D433 (Or.inr (w299 G)) fd_11
      refine oD 130 X433 at_129 rfl rfl <| oa 132 X433 at_130 rfl rfl <| oa 134 X433 at_132 rfl rfl <| oa 136 X433 at_134 rfl rfl <| oa 138 X433 at_136 rfl rfl <| mP 141 1 X433 (rm_au39 G A433 f437 f434 f435 f436 (by omega)) (u43 G) at_138 rfl rfl rfl lr (by decide) (aR (by omega) all0) ?_
      rintro _ _ _ X438 ⟨rfl, q439, q440, q441, q442, q443⟩ _ _
      refine sk [.ref b433] rfl <| oU 143 (l' := #[ii p1, ii p2, ii p3, ii p4, ii p5, rr xa1_2, rr xa1_16, rr xa1_31, .val .null, rr b262, rr b300, rr xa2_398, rr b433, uu]) X438 at_141 rfl rfl rfl <| oa 145 X438 at_143 rfl rfl <| o_aload 147 X438 at_145 rfl rfl rfl <| mV 150 0 X438 q439 (rm_au47 G q440 q441 q442) (u44 G) at_147 rfl rfl rfl lr (by decide) all0 ?_
      rintro _ _ _ X444 ⟨xa1_445, rfl, q446, q447, q448, q449, q450, _⟩ K444 _
      refine sk [.ref xa1_445] rfl <| oU 152 (l' := #[ii p1, ii p2, ii p3, ii p4, ii p5, rr xa1_2, rr xa1_16, rr xa1_31, .val .null, rr b262, rr b300, rr xa2_398, rr b433, rr xa1_445]) X444 at_150 rfl rfl rfl <| oa 154 X444 at_152 rfl rfl <| mV 157 0 X444 q446 (rm_au43 G q448) (u45 G) at_154 rfl rfl rfl lr (by decide) all0 ?_
      rintro _ _ _ X452 rfl K452 _
      refine sk [.ref xa1_2] rfl <| oa 159 X452 at_157 rfl rfl <| o_acmp 162 (same := true) X452 at_159 rfl rfl (decide_eq_true rfl) (by decide) (by decide) <| oa 164 X452 at_162 rfl rfl ?_
      have f453 := q449.k0 K452
      have f454 := q446.keep K452
      refine mV 167 0 X452 f454 (rm_au44 G f453) (u46 G) at_164 rfl rfl rfl lr (by decide) all0 ?_
      rintro _ _ _ X455 rfl K455 _
      refine sk [.ref xa1_16] rfl <| oa 169 X455 at_167 rfl rfl <| o_acmp 172 (same := true) X455 at_169 rfl rfl (decide_eq_true rfl) (by decide) (by decide) <| oa 174 X455 at_172 rfl rfl ?_
      have f456 := (q450.k0 K452).k0 K455
      have f457 := f454.keep K455
      refine mV 177 0 X455 f457 (rm_au48 G f456) (u47 G) at_174 rfl rfl rfl lr (by decide) all0 ?_
      rintro _ _ _ X458 rfl K458 _
      refine sk [.null] rfl <| o_aload 179 X458 at_177 rfl rfl rfl <| o_acmp 182 (same := true) X458 at_179 rfl rfl (decide_eq_true rfl) (by decide) (by decide) <| oa 184 X458 at_182 rfl rfl ?_
      have f459 := ((q447.k0 K452).k0 K455).k0 K458
      have f460 := f457.keep K458
      refine mV 187 0 X458 f460 (rm_au41 G f459) (u42 G) at_184 rfl rfl rfl lr (by decide) all0 ?_
      rintro _ _ _ X461 rfl K461 _
      refine sk [.ref xa2_398] rfl <| oa 189 X461 at_187 rfl rfl <| o_acmp 192 (same := true) X461 at_189 rfl rfl (decide_eq_true rfl) (by decide) (by decide) <| oa 194 X461 at_192 rfl rfl ?_
      have f462 := ((((q443.k0 K444).k0 K452).k0 K455).k0 K458).k0 K461
      have f463 := ((((q439.keep K444).keep K452).keep K455).keep K458).keep K461
      refine mV 197 0 X461 f463 (rm_au45 G f462) (u47 G) at_194 rfl rfl rfl lr (by decide) all0 ?_
      rintro _ _ _ X464 rfl _ _
      refine sk [.ref xa1_31] rfl <| oa 199 X464 at_197 rfl rfl <| o_acmp 202 (same := true) X464 at_199 rfl rfl (decide_eq_true rfl) (by decide) (by decide) <| oc 203 (v := 1) X464 at_202 rfl (by decide) <| og 207 X464 at_203 (by decide) ?_
      exact o_nret (y := (1 : Int32)) (t := .boolean) X464 at_207 rfl (by decide) (by simp) (by decide) (by decide) rfl
  · refine on 21 X15 at_18 rfl ((if0 _ _).trans (feq hc29).1) <| o_aconstNull 22 X15 at_21 rfl <| og 29 X15 at_22 (by decide) <| oU 31 (l' := #[ii p1, ii p2, ii p3, ii p4, ii p5, rr xa1_2, rr xa1_16, .val .null, uu, uu, uu, uu, uu, uu]) X15 at_29 rfl rfl rfl <| oI 32 X15 at_31 rfl rfl <| ob 34 (v := 16) X15 at_32 rfl (by decide) <| o_iushr 35 (v := ((p4.toUInt32 >>> ((16 : Int32) &&& 31).toUInt32).toInt32)) X15 at_34 rfl rfl <| oc 36 (v := 1) X15 at_35 rfl (by decide) <| o_iand 37 (v := (((p4.toUInt32 >>> ((16 : Int32) &&& 31).toUInt32).toInt32) &&& (1 : Int32))) X15 at_36 rfl rfl ?_
    by_cases hc465 : (((p4.toUInt32 >>> ((16 : Int32) &&& 31).toUInt32).toInt32) &&& (1 : Int32)) = (0 : Int32)
    · refine oy 44 X15 at_37 (by decide) ((if0 _ _).trans (teq hc465).1) <| oI 45 X15 at_44 rfl rfl <| mS 48 0 X15 (rm_au9 G ) (u9 G) at_45 rfl rfl rfl lr (by decide) all0 ?_
      rintro _ _ _ X466 ⟨xa1_467, _, _, _, _, rfl, _, _, _, _, _, _, _, _⟩ _ _
      refine sk [.ref xa1_467] rfl <| oU 50 (l' := #[ii p1, ii p2, ii p3, ii p4, ii p5, rr xa1_2, rr xa1_16, .val .null, rr xa1_467, uu, uu, uu, uu, uu]) X466 at_48 rfl rfl rfl <| o_new 53 X466 (w34 G) (w35 G) (w36 G) at_50 rfl (by decide) (by decide) ?_
      intro _ h480 b480 X480 _ _ _ A480 D480 _
      have f481 : fd4 Z h480 b480 (.int 0) := D480 (Or.inl (w54 G)) fd_3
      have f482 : fd5 Z h480 b480 .null := D480 (Or.inl (w57 G)) fd_4
      have f483 : fd6 Z h480 b480 (.int 0) := D480 (Or.inl (w66 G)) fd_3
      refine oD 54 X480 at_53 rfl rfl <| mP 57 1 X480 (rm_au12 G A480 f482 f481 f483 (by omega)) (u12 G) at_54 rfl rfl rfl lr (by decide) (aR (by omega) all0) ?_
      rintro _ _ _ X484 ⟨rfl, q485, q486, q487, q488⟩ _ _
      refine sk [.ref b480] rfl <| oU 59 (l' := #[ii p1, ii p2, ii p3, ii p4, ii p5, rr xa1_2, rr xa1_16, .val .null, rr xa1_467, rr b480, uu, uu, uu, uu]) X484 at_57 rfl rfl rfl <| oa 61 X484 at_59 rfl rfl <| oi 63 X484 at_61 rfl rfl <| mS 66 1 X484 (rm_au9 G ) (u9 G) at_63 rfl rfl rfl lr (by decide) all0 ?_
      rintro _ _ _ X489 ⟨xa1_490, _, _, _, _, rfl, q495, q496, q497, q498, q499, q500, q501, _⟩ K489 _
      refine sk [.ref xa1_490, .ref b480] rfl ?_
      have f503 := q485.keep K489
      have f504 := q486.k0 K489
      have f505 := q487.k0 K489
      have f506 := q488.k0 K489
      refine mV 69 0 X489 f503 (rm_au17 G f503 f504 f505 f506 q495 (by omega)) (u17 G) at_66 rfl rfl rfl lr (by decide) (aR (by omega) all0) ?_
      rintro _ _ _ X507 ⟨_, _, rfl, q510, q511, _, q513, q514, _, _, _⟩ K507 _
      refine sk [.int 1] rfl <| o_pop 70 X507 at_69 rfl rfl <| o_new 73 X507 (w34 G) (w35 G) (w36 G) at_70 rfl (by decide) (by decide) ?_
      intro _ h518 b518 X518 _ _ E518 A518 D518 _
      have f519 : fd4 Z h518 b518 (.int 0) := D518 (Or.inl (w54 G)) fd_3
      have f520 : fd5 Z h518 b518 .null := D518 (Or.inl (w57 G)) fd_4
      have f521 : fd6 Z h518 b518 (.int 0) := D518 (Or.inl (w66 G)) fd_3
      refine oD 74 X518 at_73 rfl rfl <| mP 77 1 X518 (rm_au12 G A518 f520 f519 f521 (by omega)) (u12 G) at_74 rfl rfl rfl lr (by decide) (aR (by omega) all0) ?_
      rintro _ _ _ X522 ⟨rfl, q523, q524, q525, q526⟩ K522 _
      refine sk [.ref b518] rfl <| oU 79 (l' := #[ii p1, ii p2, ii p3, ii p4, ii p5, rr xa1_2, rr xa1_16, .val .null, rr xa1_467, rr b480, rr b518, uu, uu, uu]) X522 at_77 rfl rfl rfl <| oa 81 X522 at_79 rfl rfl <| oi 83 X522 at_81 rfl rfl <| ob 85 (v := 16) X522 at_83 rfl (by decide) <| o_iushr 86 (v := ((p5.toUInt32 >>> ((16 : Int32) &&& 31).toUInt32).toInt32)) X522 at_85 rfl rfl <| mS 89 1 X522 (rm_au9 G ) (u9 G) at_86 rfl rfl rfl lr (by decide) all0 ?_
      rintro _ _ _ X527 ⟨xa1_528, _, _, _, _, rfl, q533, _, _, _, _, _, _, _⟩ K527 _
      refine sk [.ref xa1_528, .ref b518] rfl ?_
      have f541 := q523.keep K527
      have f542 := q524.k0 K527
      have f543 := q525.k0 K527
      have f544 := q526.k0 K527
      refine mV 92 0 X527 f541 (rm_au17 G f541 f542 f543 f544 q533 (by omega)) (u17 G) at_89 rfl rfl rfl lr (by decide) (aR (by omega) all0) ?_
      rintro _ _ _ X545 ⟨_, _, rfl, q548, q549, _, q551, q552, _, _, _⟩ K545 _
      refine sk [.int 1] rfl <| o_pop 93 X545 at_92 rfl rfl <| oI 94 X545 at_93 rfl rfl <| ob 96 (v := 16) X545 at_94 rfl (by decide) <| o_iushr 97 (v := ((p1.toUInt32 >>> ((16 : Int32) &&& 31).toUInt32).toInt32)) X545 at_96 rfl rfl <| mS 100 0 X545 (rm_au9 G ) (u9 G) at_97 rfl rfl rfl lr (by decide) all0 ?_
      rintro _ _ _ X556 ⟨xa1_557, _, _, _, _, rfl, _, _, _, _, _, _, _, _⟩ K556 _
      refine sk [.ref xa1_557] rfl <| oI 101 X556 at_100 rfl rfl <| ob 103 (v := 16) X556 at_101 rfl (by decide) <| o_iushr 104 (v := ((p2.toUInt32 >>> ((16 : Int32) &&& 31).toUInt32).toInt32)) X556 at_103 rfl rfl <| mS 107 1 X556 (rm_au9 G ) (u9 G) at_104 rfl rfl rfl lr (by decide) all0 ?_
      rintro _ _ _ X570 ⟨xa1_571, _, _, _, _, rfl, _, _, _, _, _, _, _, _⟩ K570 _
      refine sk [.ref xa1_571, .ref xa1_557] rfl <| oI 108 X570 at_107 rfl rfl <| ob 110 (v := 17) X570 at_108 rfl (by decide) <| o_iushr 111 (v := ((p3.toUInt32 >>> ((17 : Int32) &&& 31).toUInt32).toInt32)) X570 at_110 rfl rfl <| mS 114 2 X570 (rm_au9 G ) (u9 G) at_111 rfl rfl rfl lr (by decide) all0 ?_
      rintro _ _ _ X584 ⟨xa1_585, _, _, _, _, rfl, _, _, _, _, _, _, _, _⟩ K584 _
      refine sk [.ref xa1_585, .ref xa1_571, .ref xa1_557] rfl <| oa 116 X584 at_114 rfl rfl <| oa 118 X584 at_116 rfl rfl ?_
      have f598 := ((((((q510.ext E518).keep K522).keep K527).keep K545).keep K556).keep K570).keep K584
      have f599 := ((((((q511.ext E518).k1 K522 (by omega)).k0 K527).k1 K545 (by omega)).k0 K556).k0 K570).k0 K584
      have f600 := ((((((q513.ext E518).k1 K522 (by omega)).k0 K527).k1 K545 (by omega)).k0 K556).k0 K570).k0 K584
      have f601 := ((q548.keep K556).keep K570).keep K584
      have f602 := ((q549.k0 K556).k0 K570).k0 K584
      have f603 := ((q551.k0 K556).k0 K570).k0 K584
      have f604 := ((((((q514.ext E518).k1 K522 (by omega)).k0 K527).k1 K545 (by omega)).k0 K556).k0 K570).k0 K584
      have f605 := ((q552.k0 K556).k0 K570).k0 K584
      have f606 := (((((((q495.keep K507).ext E518).keep K522).keep K527).keep K545).keep K556).keep K570).keep K584
      have f607 := (((((((q496.k1 K507 (by omega)).ext E518).k1 K522 (by omega)).k0 K527).k1 K545 (by omega)).k0 K556).k0 K570).k0 K584
      have f608 := (((((((q497.k1 K507 (by omega)).ext E518).k1 K522 (by omega)).k0 K527).k1 K545 (by omega)).k0 K556).k0 K570).k0 K584
      have f609 := (((((((q498.k1 K507 (by omega)).ext E518).k1 K522 (by omega)).k0 K527).k1 K545 (by omega)).k0 K556).k0 K570).k0 K584
      have f610 := (((((((q499.k1 K507 (by omega)).ext E518).k1 K522 (by omega)).k0 K527).k1 K545 (by omega)).k0 K556).k0 K570).k0 K584
      have f611 := (((q533.keep K545).keep K556).keep K570).keep K584
      have f612 := (((((((q500.k1 K507 (by omega)).ext E518).k1 K522 (by omega)).k0 K527).k1 K545 (by omega)).k0 K556).k0 K570).k0 K584
      have f613 := (((((((q501.keep K507).ext E518).keep K522).keep K527).keep K545).keep K556).keep K570).keep K584
      refine mS 121 0 X584 (rm_au40 G f598 f599 f600 f601 f602 f603 f604 f605 f606 f607 f608 f609 f610 f611 f612 f613 (by omega)) (u41 G) at_118 rfl rfl rfl lr (by decide) (aR (by omega) all0) ?_
      rintro _ _ _ X614 ⟨xa1_615, xa2_616, _, _, _, _, _, rfl, _, _, _, q625, q626, _, _, _, _, _, _, _, _, _, _, _, _, _, _, _, _, _, _, _, _, _, _, _⟩ _ _
      refine sk [.ref xa1_615] rfl <| mV 124 0 X614 q625 (rm_au41 G q626) (u42 G) at_121 rfl rfl rfl lr (by decide) all0 ?_
      rintro _ _ _ X650 rfl _ _
      refine sk [.ref xa2_616] rfl <| oU 126 (l' := #[ii p1, ii p2, ii p3, ii p4, ii p5, rr xa1_2, rr xa1_16, .val .null, rr xa1_467, rr b480, rr b518, rr xa2_616, uu, uu]) X650 at_124 rfl rfl rfl <| o_new 129 X650 (w305 G) (w259 G) (w91 G) at_126 rfl (by decide) (by decide) ?_
      intro _ h651 b651 X651 _ _ _ A651 D651 _
      have f652 : fd20 Z h651 b651 .null := D651 (Or.inr (w293 G)) fd_10
      have f653 : fd21 Z h651 b651 .null := D651 (Or.inr (w295 G)) fd_10
      have f654 : fd22 Z h651 b651 .null := D651 (Or.inr (w297 G)) fd_10
      have f655 : fd23 Z h651 b651 .null := D651 (Or.inr (w299 G)) fd_11
      refine oD 130 X651 at_129 rfl rfl <| oa 132 X651 at_130 rfl rfl <| oa 134 X651 at_132 rfl rfl <| o_aload 136 X651 at_134 rfl rfl rfl <| oa 138 X651 at_136 rfl rfl <| mP 141 1 X651 (rm_au46 G A651 f655 f652 f653 f654 (by omega)) (u43 G) at_138 rfl rfl rfl lr (by decide) (aR (by omega) all0) ?_
      rintro _ _ _ X656 ⟨rfl, q657, q658, q659, q660, q661⟩ _ _
      refine sk [.ref b651] rfl <| oU 143 (l' := #[ii p1, ii p2, ii p3, ii p4, ii p5, rr xa1_2, rr xa1_16, .val .null, rr xa1_467, rr b480, rr b518, rr xa2_616, rr b651, uu]) X656 at_141 rfl rfl rfl <| oa 145 X656 at_143 rfl rfl <| oa 147 X656 at_145 rfl rfl <| mV 150 0 X656 q657 (rm_au42 G q658 q659 q660) (u44 G) at_147 rfl rfl rfl lr (by decide) all0 ?_
      rintro _ _ _ X662 ⟨xa1_663, rfl, q664, q665, q666, q667, q668, _⟩ K662 _
      refine sk [.ref xa1_663] rfl <| oU 152 (l' := #[ii p1, ii p2, ii p3, ii p4, ii p5, rr xa1_2, rr xa1_16, .val .null, rr xa1_467, rr b480, rr b518, rr xa2_616, rr b651, rr xa1_663]) X662 at_150 rfl rfl rfl <| oa 154 X662 at_152 rfl rfl <| mV 157 0 X662 q664 (rm_au43 G q666) (u45 G) at_154 rfl rfl rfl lr (by decide) all0 ?_
      rintro _ _ _ X670 rfl K670 _
      refine sk [.ref xa1_2] rfl <| oa 159 X670 at_157 rfl rfl <| o_acmp 162 (same := true) X670 at_159 rfl rfl (decide_eq_true rfl) (by decide) (by decide) <| oa 164 X670 at_162 rfl rfl ?_
      have f671 := q667.k0 K670
      have f672 := q664.keep K670
      refine mV 167 0 X670 f672 (rm_au44 G f671) (u46 G) at_164 rfl rfl rfl lr (by decide) all0 ?_
      rintro _ _ _ X673 rfl K673 _
      refine sk [.ref xa1_16] rfl <| oa 169 X673 at_167 rfl rfl <| o_acmp 172 (same := true) X673 at_169 rfl rfl (decide_eq_true rfl) (by decide) (by decide) <| oa 174 X673 at_172 rfl rfl ?_
      have f674 := (q668.k0 K670).k0 K673
      have f675 := f672.keep K673
      refine mV 177 0 X673 f675 (rm_au45 G f674) (u47 G) at_174 rfl rfl rfl lr (by decide) all0 ?_
      rintro _ _ _ X676 rfl K676 _
      refine sk [.ref xa1_467] rfl <| oa 179 X676 at_177 rfl rfl <| o_acmp 182 (same := true) X676 at_179 rfl rfl (decide_eq_true rfl) (by decide) (by decide) <| oa 184 X676 at_182 rfl rfl ?_
      have f677 := ((q665.k0 K670).k0 K673).k0 K676
      have f678 := f675.keep K676
      refine mV 187 0 X676 f678 (rm_au41 G f677) (u42 G) at_184 rfl rfl rfl lr (by decide) all0 ?_
      rintro _ _ _ X679 rfl K679 _
      refine sk [.ref xa2_616] rfl <| oa 189 X679 at_187 rfl rfl <| o_acmp 192 (same := true) X679 at_189 rfl rfl (decide_eq_true rfl) (by decide) (by decide) <| oa 194 X679 at_192 rfl rfl ?_
      have f680 := ((((q661.k0 K662).k0 K670).k0 K673).k0 K676).k0 K679
      have f681 := ((((q657.keep K662).keep K670).keep K673).keep K676).keep K679
      refine mV 197 0 X679 f681 (rm_au48 G f680) (u47 G) at_194 rfl rfl rfl lr (by decide) all0 ?_
      rintro _ _ _ X682 rfl _ _
      refine sk [.null] rfl <| o_aload 199 X682 at_197 rfl rfl rfl <| o_acmp 202 (same := true) X682 at_199 rfl rfl (decide_eq_true rfl) (by decide) (by decide) <| oc 203 (v := 1) X682 at_202 rfl (by decide) <| og 207 X682 at_203 (by decide) ?_
      exact o_nret (y := (1 : Int32)) (t := .boolean) X682 at_207 rfl (by decide) (by simp) (by decide) (by decide) rfl
    · refine on 40 X15 at_37 rfl ((if0 _ _).trans (feq hc465).1) <| o_aconstNull 41 X15 at_40 rfl <| og 48 X15 at_41 (by decide) <| oU 50 (l' := #[ii p1, ii p2, ii p3, ii p4, ii p5, rr xa1_2, rr xa1_16, .val .null, .val .null, uu, uu, uu, uu, uu]) X15 at_48 rfl rfl rfl <| o_new 53 X15 (w34 G) (w35 G) (w36 G) at_50 rfl (by decide) (by decide) ?_
      intro _ h683 b683 X683 _ _ _ A683 D683 _
      have f684 : fd4 Z h683 b683 (.int 0) := D683 (Or.inl (w54 G)) fd_3
      have f685 : fd5 Z h683 b683 .null := D683 (Or.inl (w57 G)) fd_4
      have f686 : fd6 Z h683 b683 (.int 0) := D683 (Or.inl (w66 G)) fd_3
      refine oD 54 X683 at_53 rfl rfl <| mP 57 1 X683 (rm_au12 G A683 f685 f684 f686 (by omega)) (u12 G) at_54 rfl rfl rfl lr (by decide) (aR (by omega) all0) ?_
      rintro _ _ _ X687 ⟨rfl, q688, q689, q690, q691⟩ _ _
      refine sk [.ref b683] rfl <| oU 59 (l' := #[ii p1, ii p2, ii p3, ii p4, ii p5, rr xa1_2, rr xa1_16, .val .null, .val .null, rr b683, uu, uu, uu, uu]) X687 at_57 rfl rfl rfl <| oa 61 X687 at_59 rfl rfl <| oi 63 X687 at_61 rfl rfl <| mS 66 1 X687 (rm_au9 G ) (u9 G) at_63 rfl rfl rfl lr (by decide) all0 ?_
      rintro _ _ _ X692 ⟨xa1_693, _, _, _, _, rfl, q698, q699, q700, q701, q702, q703, q704, _⟩ K692 _
      refine sk [.ref xa1_693, .ref b683] rfl ?_
      have f706 := q688.keep K692
      have f707 := q689.k0 K692
      have f708 := q690.k0 K692
      have f709 := q691.k0 K692
      refine mV 69 0 X692 f706 (rm_au17 G f706 f707 f708 f709 q698 (by omega)) (u17 G) at_66 rfl rfl rfl lr (by decide) (aR (by omega) all0) ?_
      rintro _ _ _ X710 ⟨_, _, rfl, q713, q714, _, q716, q717, _, _, _⟩ K710 _
      refine sk [.int 1] rfl <| o_pop 70 X710 at_69 rfl rfl <| o_new 73 X710 (w34 G) (w35 G) (w36 G) at_70 rfl (by decide) (by decide) ?_
      intro _ h721 b721 X721 _ _ E721 A721 D721 _
      have f722 : fd4 Z h721 b721 (.int 0) := D721 (Or.inl (w54 G)) fd_3
      have f723 : fd5 Z h721 b721 .null := D721 (Or.inl (w57 G)) fd_4
      have f724 : fd6 Z h721 b721 (.int 0) := D721 (Or.inl (w66 G)) fd_3
      refine oD 74 X721 at_73 rfl rfl <| mP 77 1 X721 (rm_au12 G A721 f723 f722 f724 (by omega)) (u12 G) at_74 rfl rfl rfl lr (by decide) (aR (by omega) all0) ?_
      rintro _ _ _ X725 ⟨rfl, q726, q727, q728, q729⟩ K725 _
      refine sk [.ref b721] rfl <| oU 79 (l' := #[ii p1, ii p2, ii p3, ii p4, ii p5, rr xa1_2, rr xa1_16, .val .null, .val .null, rr b683, rr b721, uu, uu, uu]) X725 at_77 rfl rfl rfl <| oa 81 X725 at_79 rfl rfl <| oi 83 X725 at_81 rfl rfl <| ob 85 (v := 16) X725 at_83 rfl (by decide) <| o_iushr 86 (v := ((p5.toUInt32 >>> ((16 : Int32) &&& 31).toUInt32).toInt32)) X725 at_85 rfl rfl <| mS 89 1 X725 (rm_au9 G ) (u9 G) at_86 rfl rfl rfl lr (by decide) all0 ?_
      rintro _ _ _ X730 ⟨xa1_731, _, _, _, _, rfl, q736, _, _, _, _, _, _, _⟩ K730 _
      refine sk [.ref xa1_731, .ref b721] rfl ?_
      have f744 := q726.keep K730
      have f745 := q727.k0 K730
      have f746 := q728.k0 K730
      have f747 := q729.k0 K730
      refine mV 92 0 X730 f744 (rm_au17 G f744 f745 f746 f747 q736 (by omega)) (u17 G) at_89 rfl rfl rfl lr (by decide) (aR (by omega) all0) ?_
      rintro _ _ _ X748 ⟨_, _, rfl, q751, q752, _, q754, q755, _, _, _⟩ K748 _
      refine sk [.int 1] rfl <| o_pop 93 X748 at_92 rfl rfl <| oI 94 X748 at_93 rfl rfl <| ob 96 (v := 16) X748 at_94 rfl (by decide) <| o_iushr 97 (v := ((p1.toUInt32 >>> ((16 : Int32) &&& 31).toUInt32).toInt32)) X748 at_96 rfl rfl <| mS 100 0 X748 (rm_au9 G ) (u9 G) at_97 rfl rfl rfl lr (by decide) all0 ?_
      rintro _ _ _ X759 ⟨xa1_760, _, _, _, _, rfl, _, _, _, _, _, _, _, _⟩ K759 _
      refine sk [.ref xa1_760] rfl <| oI 101 X759 at_100 rfl rfl <| ob 103 (v := 16) X759 at_101 rfl (by decide) <| o_iushr 104 (v := ((p2.toUInt32 >>> ((16 : Int32) &&& 31).toUInt32).toInt32)) X759 at_103 rfl rfl <| mS 107 1 X759 (rm_au9 G ) (u9 G) at_104 rfl rfl rfl lr (by decide) all0 ?_
      rintro _ _ _ X773 ⟨xa1_774, _, _, _, _, rfl, _, _, _, _, _, _, _, _⟩ K773 _
      refine sk [.ref xa1_774, .ref xa1_760] rfl <| oI 108 X773 at_107 rfl rfl <| ob 110 (v := 17) X773 at_108 rfl (by decide) <| o_iushr 111 (v := ((p3.toUInt32 >>> ((17 : Int32) &&& 31).toUInt32).toInt32)) X773 at_110 rfl rfl <| mS 114 2 X773 (rm_au9 G ) (u9 G) at_111 rfl rfl rfl lr (by decide) all0 ?_
      rintro _ _ _ X787 ⟨xa1_788, _, _, _, _, rfl, _, _, _, _, _, _, _, _⟩ K787 _
      refine sk [.ref xa1_788, .ref xa1_774, .ref xa1_760] rfl <| oa 116 X787 at_114 rfl rfl <| oa 118 X787 at_116 rfl rfl ?_
      have f801 := ((((((q713.ext E721).keep K725).keep K730).keep K748).keep K759).keep K773).keep K787
      have f802 := ((((((q714.ext E721).k1 K725 (by omega)).k0 K730).k1 K748 (by omega)).k0 K759).k0 K773).k0 K787
      have f803 := ((((((q716.ext E721).k1 K725 (by omega)).k0 K730).k1 K748 (by omega)).k0 K759).k0 K773).k0 K787
      have f804 := ((q751.keep K759).keep K773).keep K787
      have f805 := ((q752.k0 K759).k0 K773).k0 K787
      have f806 := ((q754.k0 K759).k0 K773).k0 K787
      have f807 := ((((((q717.ext E721).k1 K725 (by omega)).k0 K730).k1 K748 (by omega)).k0 K759).k0 K773).k0 K787
      have f808 := ((q755.k0 K759).k0 K773).k0 K787
      have f809 := (((((((q698.keep K710).ext E721).keep K725).keep K730).keep K748).keep K759).keep K773).keep K787
      have f810 := (((((((q699.k1 K710 (by omega)).ext E721).k1 K725 (by omega)).k0 K730).k1 K748 (by omega)).k0 K759).k0 K773).k0 K787
      have f811 := (((((((q700.k1 K710 (by omega)).ext E721).k1 K725 (by omega)).k0 K730).k1 K748 (by omega)).k0 K759).k0 K773).k0 K787
      have f812 := (((((((q701.k1 K710 (by omega)).ext E721).k1 K725 (by omega)).k0 K730).k1 K748 (by omega)).k0 K759).k0 K773).k0 K787
      have f813 := (((((((q702.k1 K710 (by omega)).ext E721).k1 K725 (by omega)).k0 K730).k1 K748 (by omega)).k0 K759).k0 K773).k0 K787
      have f814 := (((q736.keep K748).keep K759).keep K773).keep K787
      have f815 := (((((((q703.k1 K710 (by omega)).ext E721).k1 K725 (by omega)).k0 K730).k1 K748 (by omega)).k0 K759).k0 K773).k0 K787
      have f816 := (((((((q704.keep K710).ext E721).keep K725).keep K730).keep K748).keep K759).keep K773).keep K787
      refine mS 121 0 X787 (rm_au40 G f801 f802 f803 f804 f805 f806 f807 f808 f809 f810 f811 f812 f813 f814 f815 f816 (by omega)) (u41 G) at_118 rfl rfl rfl lr (by decide) (aR (by omega) all0) ?_
      rintro _ _ _ X817 ⟨xa1_818, xa2_819, _, _, _, _, _, rfl, _, _, _, q828, q829, _, _, _, _, _, _, _, _, _, _, _, _, _, _, _, _, _, _, _, _, _, _, _⟩ _ _
      refine sk [.ref xa1_818] rfl <| mV 124 0 X817 q828 (rm_au41 G q829) (u42 G) at_121 rfl rfl rfl lr (by decide) all0 ?_
      rintro _ _ _ X853 rfl _ _
      refine sk [.ref xa2_819] rfl <| oU 126 (l' := #[ii p1, ii p2, ii p3, ii p4, ii p5, rr xa1_2, rr xa1_16, .val .null, .val .null, rr b683, rr b721, rr xa2_819, uu, uu]) X853 at_124 rfl rfl rfl <| o_new 129 X853 (w305 G) (w259 G) (w91 G) at_126 rfl (by decide) (by decide) ?_
      intro _ h854 b854 X854 _ _ _ A854 D854 _
      have f855 : fd20 Z h854 b854 .null := D854 (Or.inr (w293 G)) fd_10
      have f856 : fd21 Z h854 b854 .null := D854 (Or.inr (w295 G)) fd_10
      have f857 : fd22 Z h854 b854 .null := D854 (Or.inr (w297 G)) fd_10
      have f858 : fd23 Z h854 b854 .null := D854 (Or.inr (w299 G)) fd_11
      refine oD 130 X854 at_129 rfl rfl <| oa 132 X854 at_130 rfl rfl <| oa 134 X854 at_132 rfl rfl <| o_aload 136 X854 at_134 rfl rfl rfl <| oa 138 X854 at_136 rfl rfl <| mP 141 1 X854 (rm_au46 G A854 f858 f855 f856 f857 (by omega)) (u43 G) at_138 rfl rfl rfl lr (by decide) (aR (by omega) all0) ?_
      rintro _ _ _ X859 ⟨rfl, q860, q861, q862, q863, q864⟩ _ _
      refine sk [.ref b854] rfl <| oU 143 (l' := #[ii p1, ii p2, ii p3, ii p4, ii p5, rr xa1_2, rr xa1_16, .val .null, .val .null, rr b683, rr b721, rr xa2_819, rr b854, uu]) X859 at_141 rfl rfl rfl <| oa 145 X859 at_143 rfl rfl <| o_aload 147 X859 at_145 rfl rfl rfl <| mV 150 0 X859 q860 (rm_au47 G q861 q862 q863) (u44 G) at_147 rfl rfl rfl lr (by decide) all0 ?_
      rintro _ _ _ X865 ⟨xa1_866, rfl, q867, q868, q869, q870, q871, _⟩ K865 _
      refine sk [.ref xa1_866] rfl <| oU 152 (l' := #[ii p1, ii p2, ii p3, ii p4, ii p5, rr xa1_2, rr xa1_16, .val .null, .val .null, rr b683, rr b721, rr xa2_819, rr b854, rr xa1_866]) X865 at_150 rfl rfl rfl <| oa 154 X865 at_152 rfl rfl <| mV 157 0 X865 q867 (rm_au43 G q869) (u45 G) at_154 rfl rfl rfl lr (by decide) all0 ?_
      rintro _ _ _ X873 rfl K873 _
      refine sk [.ref xa1_2] rfl <| oa 159 X873 at_157 rfl rfl <| o_acmp 162 (same := true) X873 at_159 rfl rfl (decide_eq_true rfl) (by decide) (by decide) <| oa 164 X873 at_162 rfl rfl ?_
      have f874 := q870.k0 K873
      have f875 := q867.keep K873
      refine mV 167 0 X873 f875 (rm_au44 G f874) (u46 G) at_164 rfl rfl rfl lr (by decide) all0 ?_
      rintro _ _ _ X876 rfl K876 _
      refine sk [.ref xa1_16] rfl <| oa 169 X876 at_167 rfl rfl <| o_acmp 172 (same := true) X876 at_169 rfl rfl (decide_eq_true rfl) (by decide) (by decide) <| oa 174 X876 at_172 rfl rfl ?_
      have f877 := (q871.k0 K873).k0 K876
      have f878 := f875.keep K876
      refine mV 177 0 X876 f878 (rm_au48 G f877) (u47 G) at_174 rfl rfl rfl lr (by decide) all0 ?_
      rintro _ _ _ X879 rfl K879 _
      refine sk [.null] rfl <| o_aload 179 X879 at_177 rfl rfl rfl <| o_acmp 182 (same := true) X879 at_179 rfl rfl (decide_eq_true rfl) (by decide) (by decide) <| oa 184 X879 at_182 rfl rfl ?_
      have f880 := ((q868.k0 K873).k0 K876).k0 K879
      have f881 := f878.keep K879
      refine mV 187 0 X879 f881 (rm_au41 G f880) (u42 G) at_184 rfl rfl rfl lr (by decide) all0 ?_
      rintro _ _ _ X882 rfl K882 _
      refine sk [.ref xa2_819] rfl <| oa 189 X882 at_187 rfl rfl <| o_acmp 192 (same := true) X882 at_189 rfl rfl (decide_eq_true rfl) (by decide) (by decide) <| oa 194 X882 at_192 rfl rfl ?_
      have f883 := ((((q864.k0 K865).k0 K873).k0 K876).k0 K879).k0 K882
      have f884 := ((((q860.keep K865).keep K873).keep K876).keep K879).keep K882
      refine mV 197 0 X882 f884 (rm_au48 G f883) (u47 G) at_194 rfl rfl rfl lr (by decide) all0 ?_
      rintro _ _ _ X885 rfl _ _
      refine sk [.null] rfl <| o_aload 199 X885 at_197 rfl rfl rfl <| o_acmp 202 (same := true) X885 at_199 rfl rfl (decide_eq_true rfl) (by decide) (by decide) <| oc 203 (v := 1) X885 at_202 rfl (by decide) <| og 207 X885 at_203 (by decide) ?_
      exact o_nret (y := (1 : Int32)) (t := .boolean) X885 at_207 rfl (by decide) (by simp) (by decide) (by decide) rfl
end Walks
set_option maxRecDepth 65536 in
set_option maxHeartbeats 40000000 in
theorem comes_1 {Post : Tables → Env → Array Value → State → Outcome → State → Prop} (hpost : ∀ tb e args s v u, (limb_1_1.after args s (.returned v) u = true ∧ limb_1_2.after args s (.returned v) u = true ∧ True) → FrameEnd s (.returned v) u (Jvm.fieldLocs frame_1_writes args s ++ Jvm.arrayLocs frame_1_arrays args s ++ Jvm.staticLocs frame_1_statics s) 88 384 → Post tb e args s (.returned v) u) :
    ArmFor flags0 classFile x code maxLocals ret World_1 tables_1 room_1 Calls_1 rest_1 Pre_1 Post := by
  intro l hfl _ _ p e ha hc hk s m args below hf hA hF happ hP
  obtain ⟨hcalls, hrest, hpre⟩ := hP
  obtain ⟨-, -, -, hnamed, -, -, -, hat⟩ := (Spec.applies_iff hf).mp happ
  obtain ⟨hg, hn⟩ := and_e (Cond.before_iff.mp (show (Jvm.Cond.and given_1 narrow_1).before args s = true from hpre))
  obtain ⟨g0, gt0⟩ := and_e hg
  obtain ⟨ga0, gt1⟩ := and_e gt0
  obtain ⟨ga1, gt2⟩ := and_e gt1
  obtain ⟨ga2, gt3⟩ := and_e gt2
  obtain ⟨ga3, gt4⟩ := and_e gt3
  obtain ⟨v0, v1, v2, v3, v4, rfl⟩ : ∃ v0 v1 v2 v3 v4 : Value, args = #[v0, v1, v2, v3, v4] := by
    have hs : args.size = 5 := by simpa [Cond.value, given_1] using g0
    obtain ⟨L⟩ := args
    match L, hs with
    | [v0, v1, v2, v3, v4], _ => exact ⟨v0, v1, v2, v3, v4, rfl⟩
  have hw := fun d (hd : d ∈ tables_1) => atoms_spec (ws := Jvm.Cond.code x code maxLocals ret :: tables_1) hat d (List.mem_cons_of_mem _ hd)
  have hfit : Fit s := fun {y c} hc i hi => by
    obtain ⟨ha, rfl⟩ := Array.getElem?_eq_some_iff.mp hc
    have q := List.all_eq_true.mp ((Array.all_eq_true_iff_forall_mem.mp hF) _ (Array.getElem_mem ha)) i (List.mem_range.mpr hi)
    simpa [Array.getElem?_eq_getElem hi] using q
  obtain ⟨hsets, hown0⟩ := atoms_of _ (rest_1_c_eq ▸ (show rest_1_c.before _ s = true from hrest))
  obtain ⟨i0, ei0⟩ := is_v ga0
  obtain rfl : v0 = (.int i0) := Option.some.inj ei0
  obtain ⟨i1, ei1⟩ := is_v ga1
  obtain rfl : v1 = (.int i1) := Option.some.inj ei1
  obtain ⟨i2, ei2⟩ := is_v ga2
  obtain rfl : v2 = (.int i2) := Option.some.inj ei2
  obtain ⟨i3, ei3⟩ := is_v ga3
  obtain rfl : v3 = (.int i3) := Option.some.inj ei3
  obtain ⟨i4, ei4⟩ := is_v gt4
  obtain rfl : v4 = (.int i4) := Option.some.inj ei4
  obtain ⟨zc, ezc⟩ := is_v (Cond.before_iff.mp (hsets _ (List.mem_of_getElem? (i := 1) rfl)))
  have S_zc : Sta s s.heap "java/lang/String" "COMPACT_STRINGS" "Z" (.int zc) := Sta.start ezc (Or.inl (hsets _ (List.mem_of_getElem? (i := 0) rfl)))
  have hzc : ¬ (zc = (0 : Int32)) := gotF (Cond.eq_ints ezc (Term.int_eval (0))) (not_v (Cond.before_iff.mp (hsets _ (List.mem_of_getElem? (i := 2) rfl))))
  obtain ⟨dce, kdce, S_dce, A_dce, E_dce⟩ := own_empty (args := #[.int i0, .int i1, .int i2, .int i3, .int i4]) hfit (w_36 hw) (hsets _ (List.mem_of_getElem? (i := 11) rfl)) (by decide) (hsets _ (List.mem_of_getElem? (i := 15) rfl)) (hsets _ (List.mem_of_getElem? (i := 16) rfl)) (hsets _ (List.mem_of_getElem? (i := 17) rfl))
  obtain ⟨eed, keed, S_eed, A_eed, E_eed⟩ := own_empty (args := #[.int i0, .int i1, .int i2, .int i3, .int i4]) hfit (w_36 hw) (hsets _ (List.mem_of_getElem? (i := 9) rfl)) (by decide) (hsets _ (List.mem_of_getElem? (i := 12) rfl)) (hsets _ (List.mem_of_getElem? (i := 13) rfl)) (hsets _ (List.mem_of_getElem? (i := 14) rfl))
  obtain ⟨c_mrlh, k_mrlh, mrlh, hm_mrlh⟩ := hcalls.1
  obtain ⟨c_mrum, k_mrum, mrum, hm_mrum⟩ := hcalls.2.1
  obtain ⟨n, o, h1, h2, h3, _, L, rfl, ⟨N, -, rfl⟩, hq⟩ := rm_law (G := (⟨hw, S_zc, hzc, S_dce, A_dce, E_dce, S_eed, A_eed, E_eed, ⟨_, _, hm_mrlh⟩, ⟨_, _, hm_mrum⟩⟩ : GL l s _ zc dce kdce eed keed mrlh mrum)) tables_1 i0 i1 i2 i3 i4 (Old.start s) p e ha hc hk s m _ below hf ((Spec.applies_iff_loose hf).mp happ).1 ⟨rfl, State.Warmed39.refl s, rfl⟩ trivial
  refine ⟨n, _, h1, h2, h3, hpost _ _ _ _ _ _ ⟨Cond.after_iff.mpr rfl, Cond.after_iff.mpr (eq_i res_at (Term.int_eval (1)) rfl), trivial⟩ ⟨hq.1, hq.2.1, (hq.2.2.sift fun y hy => Or.inr (N y hy)).mono (by decide) (by decide)⟩⟩
theorem main_1_1 : Claimed_1_1 := comes_1 fun _ _ _ _ _ _ h hF => ⟨h.1, hF⟩
theorem main_1_2 : Claimed_1_2 := comes_1 fun _ _ _ _ _ _ h hF => ⟨h.2.1, hF⟩
end Jvm.Pilot.@@N@@
namespace Jvm.Pilot.@@N@@
open Jvm Jvm.ClassFile Sem Op Lib Jvm.Free Jvm.Stand Jvm.Pilot.@@N@@.Jvm.D
/-! MADE BY PROGRAM (witnessworld.py) out of the Statement's table words and the real class files: 42 classes; the members and pool entries that the words name. The judged class is class 1, her method 2. -/
namespace start1
open Jvm.ClassFile
def u (s : String) : CpInfo := .utf8 (stringToUtf16 s)
/-- a pool by its gaps: so many unusable entries, then the entry; so many at the end -/
def gap : Nat → List CpInfo → List CpInfo
  | 0, r => r
  | n + 1, r => .unusable :: gap n r
def poolList (es : List (Nat × CpInfo)) (last : Nat) : List CpInfo := es.foldr (fun e r => gap e.1 (e.2 :: r)) (gap last [])
def pool (es : List (Nat × CpInfo)) (last : Nat) : Array CpInfo := ⟨poolList es last⟩
def fileOf (pool : Array CpInfo) (this : Nat) (attrs : Array Attribute := #[]) (ms : Array MethodInfo := #[]) (fl : Nat := 33) (sup : Nat := 0) (ifs : Array Nat := #[]) (fds : Array FieldInfo := #[]) : ClassFile where
  minorVersion := 0
  majorVersion := 65
  constantPool := pool
  accessFlags := fl
  thisClass := this
  superClass := sup
  interfaces := ifs
  fields := fds
  methods := ms
  attributes := attrs
def plain (name : String) (sup : Option ClassId) : Class where
  name := name
  kind := .ordinary
  loader := none
  accessFlags := 33
  super := sup
  interfaces := #[]
  cf := none
  fields := #[]
  methods := #[]
  instanceTypes := #[]
  staticTypes := #[]
  resolved := #[]
  callSites := []
  init := .initialized
  statics := none
  mirror := none

def pool0 : Array CpInfo := pool [(5, u "<init>"), (0, u "()V"), (1, .class_ 10), (1, u "java/lang/Object"), (0, u "getClass"), (0, u "()Ljava/lang/Class;"), (14, u "hashCode"), (0, u "()I")] 95

def k0c0 : Code := ⟨0, 1, object_method_1_code, #[], #[]⟩
def k0m0 : Method := ⟨"<init>", "()V", ⟨[], none⟩, 1, some k0c0⟩
def k0m1 : Method := ⟨"getClass", "()Ljava/lang/Class;", ⟨[], some (.object "java/lang/Class")⟩, 273, none⟩
def k0m2 : Method := ⟨"hashCode", "()I", ⟨[], some .int⟩, 257, none⟩
/-- java/lang/Object -/
def k0 : Class := { plain "java/lang/Object" none with
  accessFlags := 33
  interfaces := #[]
  cf := some (fileOf pool0 8 #[] #[⟨1, 5, 6, #[]⟩, ⟨273, 11, 12, #[]⟩, ⟨257, 27, 28, #[]⟩] 33 0 #[] #[])
  fields := #[]
  methods := #[k0m0, k0m1, k0m2]
  instanceTypes := #[]
  staticTypes := #[]
  resolved := Array.replicate 124 none
  statics := none }

def pool1 : Array CpInfo := pool [(2, .class_ 4), (0, .nameAndType 5 6), (0, u "java/lang/Object"), (0, u "<init>"), (0, u "()V"), (0, .class_ 8), (0, u "java/lang/String"), (0, .methodref 7 10), (0, .nameAndType 5 11), (0, u "([C)V"), (0, .methodref 13 14), (0, .class_ 15), (0, .nameAndType 16 17), (0, u "com/example/hedgerow/hedgerow/records/RecordWithOwnerPinLaw"), (0, u "s2"), (0, u "(I)Ljava/lang/String;"), (0, .class_ 19), (0, u "java/util/ArrayList"), (0, .methodref 18 3), (0, .methodref 18 22), (0, .nameAndType 23 24), (0, u "add"), (0, u "(Ljava/lang/Object;)Z"), (0, .methodref 26 27), (0, .class_ 28), (0, .nameAndType 29 30), (0, u "com/example/hedgerow/hedgerow/records/Record"), (0, u "of"), (0, u "(Ljava/lang/String;Ljava/lang/String;Ljava/lang/String;Ljava/util/List;Ljava/util/List;)Lcom/example/hedgerow/hedgerow/records/Record;"), (0, .methodref 26 32), (0, .nameAndType 33 34), (0, u "fields"), (0, u "()Ljava/util/Map;"), (0, .methodref 26 36), (0, .nameAndType 5 37), (0, u "(Ljava/lang/String;Ljava/lang/String;Ljava/lang/String;Ljava/util/Map;)V"), (0, .methodref 26 39), (0, .nameAndType 40 41), (0, u "withOwner"), (0, u "(Ljava/lang/String;)Lcom/example/hedgerow/hedgerow/records/Record;"), (0, .methodref 26 43), (0, .nameAndType 44 45), (0, u "id"), (0, u "()Ljava/lang/String;"), (0, .methodref 26 47), (0, .nameAndType 48 45), (0, u "object"), (0, .methodref 26 50), (0, .nameAndType 51 45), (0, u "owner"), (2, u "law"), (0, u "(IIIII)Z")] 5

def k1m0 : Method := ⟨"<init>", "()V", ⟨[], none⟩, 1, none⟩
def k1c1 : Code := ⟨4, 2, method_2_code, #[], #[]⟩
def k1m1 : Method := ⟨"s2", "(I)Ljava/lang/String;", ⟨[.int], some (.object "java/lang/String")⟩, 10, some k1c1⟩
def k1c2 : Code := ⟨6, 14, code, #[], #[]⟩
def k1m2 : Method := ⟨"law", "(IIIII)Z", ⟨[.int, .int, .int, .int, .int], some .boolean⟩, 9, some k1c2⟩
/-- com/example/hedgerow/hedgerow/records/RecordWithOwnerPinLaw -/
def k1 : Class := { plain "com/example/hedgerow/hedgerow/records/RecordWithOwnerPinLaw" (some 0) with
  accessFlags := 49
  interfaces := #[]
  cf := some (fileOf pool1 13 #[] #[⟨1, 5, 6, #[]⟩, ⟨10, 16, 17, #[]⟩, ⟨9, 54, 55, #[]⟩] 49 2 #[] #[])
  fields := #[]
  methods := #[k1m0, k1m1, k1m2]
  instanceTypes := #[]
  staticTypes := #[]
  resolved := Array.replicate 61 none
  statics := none }

def pool2 : Array CpInfo := pool [(1, .class_ 2), (0, u "java/io/Serializable"), (0, .class_ 4), (0, u "java/lang/Object")] 2

/-- java/io/Serializable -/
def k2 : Class := { plain "java/io/Serializable" (some 0) with
  accessFlags := 1537
  interfaces := #[]
  cf := some (fileOf pool2 1 #[] #[] 1537 3 #[] #[])
  fields := #[]
  methods := #[]
  instanceTypes := #[]
  staticTypes := #[]
  resolved := Array.replicate 7 none
  statics := none }

def pool3 : Array CpInfo := pool [(1, .class_ 2), (0, u "java/lang/Comparable"), (0, .class_ 4), (0, u "java/lang/Object")] 7

/-- java/lang/Comparable -/
def k3 : Class := { plain "java/lang/Comparable" (some 0) with
  accessFlags := 1537
  interfaces := #[]
  cf := some (fileOf pool3 1 #[] #[] 1537 3 #[] #[])
  fields := #[]
  methods := #[]
  instanceTypes := #[]
  staticTypes := #[]
  resolved := Array.replicate 12 none
  statics := none }

def pool4 : Array CpInfo := pool [(2, .class_ 4), (1, u "java/lang/CharSequence"), (42, .class_ 48), (0, u "java/lang/CharSequence$1CodePointIterator"), (10, .class_ 60), (0, u "java/lang/CharSequence$1CharIterator"), (5, .class_ 67), (0, u "java/lang/Object")] 63

/-- java/lang/CharSequence -/
def k4 : Class := { plain "java/lang/CharSequence" (some 0) with
  accessFlags := 1537
  interfaces := #[]
  cf := some (fileOf pool4 2 #[.nestMembers #[47, 59]] #[] 1537 66 #[] #[])
  fields := #[]
  methods := #[]
  instanceTypes := #[]
  staticTypes := #[]
  resolved := Array.replicate 131 none
  statics := none }

def pool5 : Array CpInfo := pool [(1, .class_ 2), (0, u "java/lang/constant/Constable"), (0, .class_ 4), (0, u "java/lang/Object")] 6

/-- java/lang/constant/Constable -/
def k5 : Class := { plain "java/lang/constant/Constable" (some 0) with
  accessFlags := 1537
  interfaces := #[]
  cf := some (fileOf pool5 1 #[] #[] 1537 3 #[] #[])
  fields := #[]
  methods := #[]
  instanceTypes := #[]
  staticTypes := #[]
  resolved := Array.replicate 11 none
  statics := none }

def pool6 : Array CpInfo := pool [(1, .class_ 2), (0, u "java/lang/constant/ConstantDesc"), (0, .class_ 4), (0, u "java/lang/Object")] 32

/-- java/lang/constant/ConstantDesc -/
def k6 : Class := { plain "java/lang/constant/ConstantDesc" (some 0) with
  accessFlags := 1537
  interfaces := #[]
  cf := some (fileOf pool6 1 #[] #[] 1537 3 #[] #[])
  fields := #[]
  methods := #[]
  instanceTypes := #[]
  staticTypes := #[]
  resolved := Array.replicate 37 none
  statics := none }

def pool7 : Array CpInfo := pool [(1, .methodref 2 3), (0, .class_ 4), (0, .nameAndType 5 6), (0, u "java/lang/Object"), (0, u "<init>"), (0, u "()V"), (2, .fieldref 10 11), (0, .class_ 12), (0, .nameAndType 13 14), (0, u "java/lang/String"), (0, u "value"), (0, u "[B"), (0, .fieldref 10 16), (0, .nameAndType 17 18), (0, u "coder"), (0, u "B"), (0, .fieldref 10 20), (0, .nameAndType 21 22), (0, u "hash"), (0, u "I"), (0, .fieldref 10 24), (0, .nameAndType 25 26), (0, u "hashIsZero"), (0, u "Z"), (0, .methodref 10 28), (0, .nameAndType 5 29), (0, u "([CIILjava/lang/Void;)V"), (8, .fieldref 10 39), (0, .nameAndType 40 26), (0, u "COMPACT_STRINGS"), (1, .class_ 44), (1, u "java/lang/StringUTF16"), (0, u "compress"), (1, .methodref 42 48), (0, .nameAndType 49 50), (0, u "coderFromArrayLen"), (0, u "([BI)B"), (56, .class_ 109), (1, u "java/lang/StringLatin1"), (32, u "()Z"), (34, .methodref 42 178), (0, .nameAndType 45 179), (0, u "([CII)[B"), (154, u "()I"), (157, .methodref 10 493), (0, .nameAndType 494 142), (0, u "isLatin1"), (80, .class_ 576), (0, u "java/lang/CharSequence"), (22, u "CASE_INSENSITIVE_ORDER"), (0, u "Ljava/util/Comparator;"), (27, .methodref 107 629), (0, .nameAndType 630 631), (0, u "hashCode"), (0, u "([B)I"), (378, u "([C)V"), (90, u "serialPersistentFields"), (0, u "[Ljava/io/ObjectStreamField;"), (0, .class_ 1104), (0, u "java/lang/String$CaseInsensitiveComparator"), (1, .class_ 1107), (0, u "java/io/Serializable"), (0, .class_ 1109), (0, u "java/lang/Comparable"), (0, .class_ 1111), (0, u "java/lang/constant/Constable"), (0, .class_ 1113), (0, u "java/lang/constant/ConstantDesc"), (2, u "serialVersionUID"), (0, u "J"), (3, u "REPL"), (0, u "C"), (2, u "LATIN1"), (1, u "UTF16")] 323

def k7m0 : Method := ⟨"<init>", "()V", ⟨[], none⟩, 1, none⟩
def k7c1 : Code := ⟨5, 2, jdk_42_method_3_code, #[], #[]⟩
def k7m1 : Method := ⟨"<init>", "([C)V", ⟨[(.array .char)], none⟩, 1, some k7c1⟩
def k7c2 : Code := ⟨2, 2, jdk_42_method_78_code, #[], #[]⟩
def k7m2 : Method := ⟨"hashCode", "()I", ⟨[], some .int⟩, 1, some k7c2⟩
def k7c3 : Code := ⟨4, 6, jdk_42_method_149_code, #[], #[]⟩
def k7m3 : Method := ⟨"<init>", "([CIILjava/lang/Void;)V", ⟨[(.array .char), .int, .int, (.object "java/lang/Void")], none⟩, 2, some k7c3⟩
def k7c4 : Code := ⟨1, 1, jdk_42_method_154_code, #[], #[]⟩
def k7m4 : Method := ⟨"isLatin1", "()Z", ⟨[], some .boolean⟩, 0, some k7c4⟩
/-- java/lang/String -/
def k7 : Class := { plain "java/lang/String" (some 0) with
  accessFlags := 49
  interfaces := #[2, 3, 4, 5, 6]
  cf := some (fileOf pool7 10 #[.nestMembers #[1103]] #[⟨1, 5, 6, #[]⟩, ⟨1, 5, 1010, #[]⟩, ⟨1, 630, 334, #[]⟩, ⟨2, 5, 29, #[]⟩, ⟨0, 494, 142, #[]⟩] 49 2 #[1106, 1108, 575, 1110, 1112] #[⟨18, 13, 14, #[]⟩, ⟨18, 17, 18, #[]⟩, ⟨2, 21, 22, #[]⟩, ⟨2, 25, 26, #[]⟩, ⟨26, 1116, 1117, #[]⟩, ⟨24, 40, 26, #[]⟩, ⟨26, 1101, 1102, #[]⟩, ⟨26, 1121, 1122, #[]⟩, ⟨25, 599, 600, #[]⟩, ⟨24, 1125, 18, #[]⟩, ⟨24, 1127, 18, #[]⟩])
  fields := #[⟨"value", (.array .byte), 18, 0, 0⟩, ⟨"coder", .byte, 18, 1, 0⟩, ⟨"hash", .int, 2, 2, 0⟩, ⟨"hashIsZero", .boolean, 2, 3, 0⟩, ⟨"serialVersionUID", .long, 26, 0, 0⟩, ⟨"COMPACT_STRINGS", .boolean, 24, 1, 0⟩, ⟨"serialPersistentFields", (.array (.object "java/io/ObjectStreamField")), 26, 2, 0⟩, ⟨"REPL", .char, 26, 3, 0⟩, ⟨"CASE_INSENSITIVE_ORDER", (.object "java/util/Comparator"), 25, 4, 0⟩, ⟨"LATIN1", .byte, 24, 5, 0⟩, ⟨"UTF16", .byte, 24, 6, 0⟩]
  methods := #[k7m0, k7m1, k7m2, k7m3, k7m4]
  instanceTypes := #[(.array .byte), .byte, .int, .boolean]
  staticTypes := #[.long, .boolean, (.array (.object "java/io/ObjectStreamField")), .char, (.object "java/util/Comparator"), .byte, .byte]
  resolved := Array.replicate 1451 none
  statics := some 0 }

def pool8 : Array CpInfo := pool [(6, .class_ 8), (1, u "java/lang/Object"), (0, u "<init>"), (0, u "()V"), (1, .class_ 14), (1, u "java/lang/StringUTF16"), (31, u "$assertionsDisabled"), (0, u "Z"), (13, u "HI_BYTE_SHIFT"), (0, u "I"), (2, u "LO_BYTE_SHIFT"), (49, .methodref 12 116), (0, .nameAndType 117 118), (0, u "compress"), (0, u "([CI[BII)I"), (3, u "([CII)[B"), (138, u "coderFromArrayLen"), (0, u "([BI)B"), (106, .class_ 371), (1, u "java/lang/StringUTF16$LinesSpliterator"), (58, u "MAX_LENGTH"), (196, .class_ 628), (0, u "java/lang/StringUTF16$CodePointsSpliterator"), (0, .class_ 630), (0, u "java/lang/StringUTF16$CharsSpliterator")] 4

def k8m0 : Method := ⟨"<init>", "()V", ⟨[], none⟩, 0, none⟩
def k8c1 : Code := ⟨2, 2, jdk_52_method_15_code, #[], #[]⟩
def k8m1 : Method := ⟨"coderFromArrayLen", "([BI)B", ⟨[(.array .byte), .int], some .byte⟩, 8, some k8c1⟩
def k8c2 : Code := ⟨5, 6, jdk_52_method_16_code, #[], #[]⟩
def k8m2 : Method := ⟨"compress", "([CII)[B", ⟨[(.array .char), .int, .int], some (.array .byte)⟩, 9, some k8c2⟩
def k8c3 : Code := ⟨3, 7, jdk_52_method_21_code, #[], #[]⟩
def k8m3 : Method := ⟨"compress", "([CI[BII)I", ⟨[(.array .char), .int, (.array .byte), .int, .int], some .int⟩, 9, some k8c3⟩
/-- java/lang/StringUTF16 -/
def k8 : Class := { plain "java/lang/StringUTF16" (some 0) with
  accessFlags := 48
  interfaces := #[]
  cf := some (fileOf pool8 12 #[.nestMembers #[627, 629, 369]] #[⟨0, 9, 10, #[]⟩, ⟨8, 261, 262, #[]⟩, ⟨9, 117, 122, #[]⟩, ⟨9, 117, 118, #[]⟩] 48 6 #[] #[⟨26, 61, 62, #[]⟩, ⟨26, 65, 62, #[]⟩, ⟨24, 430, 62, #[]⟩, ⟨4120, 46, 47, #[]⟩])
  fields := #[⟨"HI_BYTE_SHIFT", .int, 26, 0, 0⟩, ⟨"LO_BYTE_SHIFT", .int, 26, 1, 0⟩, ⟨"MAX_LENGTH", .int, 24, 2, 0⟩, ⟨"$assertionsDisabled", .boolean, 4120, 3, 0⟩]
  methods := #[k8m0, k8m1, k8m2, k8m3]
  instanceTypes := #[]
  staticTypes := #[.int, .int, .int, .boolean]
  resolved := Array.replicate 635 none
  statics := none }

def pool9 : Array CpInfo := pool [(8, .class_ 10), (1, u "java/lang/Iterable"), (24, .class_ 36), (0, u "java/lang/Object")] 25

/-- java/lang/Iterable -/
def k9 : Class := { plain "java/lang/Iterable" (some 0) with
  accessFlags := 1537
  interfaces := #[]
  cf := some (fileOf pool9 8 #[] #[] 1537 35 #[] #[])
  fields := #[]
  methods := #[]
  instanceTypes := #[]
  staticTypes := #[]
  resolved := Array.replicate 62 none
  statics := none }

def pool10 : Array CpInfo := pool [(10, .class_ 12), (1, u "java/util/Collection"), (47, .class_ 61), (0, u "java/lang/Object"), (0, .class_ 63), (0, u "java/lang/Iterable")] 51

/-- java/util/Collection -/
def k10 : Class := { plain "java/util/Collection" (some 0) with
  accessFlags := 1537
  interfaces := #[9]
  cf := some (fileOf pool10 10 #[] #[] 1537 60 #[62] #[])
  fields := #[]
  methods := #[]
  instanceTypes := #[]
  staticTypes := #[]
  resolved := Array.replicate 115 none
  statics := none }

def pool11 : Array CpInfo := pool [(1, .methodref 2 3), (0, .class_ 4), (0, .nameAndType 5 6), (0, u "java/lang/Object"), (0, u "<init>"), (0, u "()V"), (1, .class_ 10), (1, u "java/util/AbstractCollection"), (66, .class_ 78), (0, u "java/util/Collection")] 81

def k11c0 : Code := ⟨1, 1, jdk_22_method_1_code, #[], #[]⟩
def k11m0 : Method := ⟨"<init>", "()V", ⟨[], none⟩, 4, some k11c0⟩
/-- java/util/AbstractCollection -/
def k11 : Class := { plain "java/util/AbstractCollection" (some 0) with
  accessFlags := 1057
  interfaces := #[10]
  cf := some (fileOf pool11 8 #[] #[⟨4, 5, 6, #[]⟩] 1057 2 #[77] #[])
  fields := #[]
  methods := #[k11m0]
  instanceTypes := #[]
  staticTypes := #[]
  resolved := Array.replicate 160 none
  statics := none }

def pool12 : Array CpInfo := pool [(8, .class_ 10), (1, u "java/util/SequencedCollection"), (15, .class_ 27), (0, u "java/lang/Object"), (0, .class_ 29), (0, u "java/util/Collection")] 27

/-- java/util/SequencedCollection -/
def k12 : Class := { plain "java/util/SequencedCollection" (some 0) with
  accessFlags := 1537
  interfaces := #[10]
  cf := some (fileOf pool12 8 #[] #[] 1537 26 #[28] #[])
  fields := #[]
  methods := #[]
  instanceTypes := #[]
  staticTypes := #[]
  resolved := Array.replicate 57 none
  statics := none }

def pool13 : Array CpInfo := pool [(8, .class_ 10), (1, u "java/util/List"), (64, u "get"), (0, u "(I)Ljava/lang/Object;"), (2, u "size"), (0, u "()I"), (22, .class_ 104), (0, u "java/lang/Object"), (15, .class_ 121), (0, u "java/util/SequencedCollection")] 129

def k13m0 : Method := ⟨"size", "()I", ⟨[], some .int⟩, 1025, none⟩
def k13m1 : Method := ⟨"get", "(I)Ljava/lang/Object;", ⟨[.int], some (.object "java/lang/Object")⟩, 1025, none⟩
/-- java/util/List -/
def k13 : Class := { plain "java/util/List" (some 0) with
  accessFlags := 1537
  interfaces := #[12]
  cf := some (fileOf pool13 8 #[] #[⟨1025, 79, 80, #[]⟩, ⟨1025, 75, 76, #[]⟩] 1537 103 #[120] #[])
  fields := #[]
  methods := #[k13m0, k13m1]
  instanceTypes := #[]
  staticTypes := #[]
  resolved := Array.replicate 251 none
  statics := none }

def pool14 : Array CpInfo := pool [(1, .methodref 2 3), (0, .class_ 4), (0, .nameAndType 5 6), (0, u "java/util/AbstractCollection"), (0, u "<init>"), (0, u "()V"), (0, .fieldref 8 9), (0, .class_ 10), (0, .nameAndType 11 12), (0, u "java/util/AbstractList"), (0, u "modCount"), (0, u "I"), (64, .class_ 78), (0, u "java/util/AbstractList$Itr"), (3, .class_ 83), (0, u "java/util/AbstractList$ListItr"), (9, .class_ 94), (0, u "java/util/AbstractList$RandomAccessSubList"), (3, .class_ 99), (0, u "java/util/AbstractList$SubList"), (33, .class_ 134), (0, u "java/util/List"), (73, .class_ 209), (0, u "java/util/AbstractList$SubList$1"), (0, .class_ 211), (0, u "java/util/AbstractList$RandomAccessSpliterator")] 6

def k14c0 : Code := ⟨2, 1, jdk_39_method_1_code, #[], #[]⟩
def k14m0 : Method := ⟨"<init>", "()V", ⟨[], none⟩, 4, some k14c0⟩
/-- java/util/AbstractList -/
def k14 : Class := { plain "java/util/AbstractList" (some 11) with
  accessFlags := 1057
  interfaces := #[13]
  cf := some (fileOf pool14 8 #[.nestMembers #[93, 98, 208, 210, 82, 77]] #[⟨4, 5, 6, #[]⟩] 1057 2 #[133] #[⟨132, 11, 12, #[]⟩])
  fields := #[⟨"modCount", .int, 132, 0, 0⟩]
  methods := #[k14m0]
  instanceTypes := #[.int]
  staticTypes := #[]
  resolved := Array.replicate 218 none
  statics := none }

def pool15 : Array CpInfo := pool [(1, .class_ 2), (0, u "java/util/RandomAccess"), (0, .class_ 4), (0, u "java/lang/Object")] 2

/-- java/util/RandomAccess -/
def k15 : Class := { plain "java/util/RandomAccess" (some 0) with
  accessFlags := 1537
  interfaces := #[]
  cf := some (fileOf pool15 1 #[] #[] 1537 3 #[] #[])
  fields := #[]
  methods := #[]
  instanceTypes := #[]
  staticTypes := #[]
  resolved := Array.replicate 7 none
  statics := none }

def pool16 : Array CpInfo := pool [(1, .class_ 2), (0, u "java/lang/Cloneable"), (0, .class_ 4), (0, u "java/lang/Object")] 2

/-- java/lang/Cloneable -/
def k16 : Class := { plain "java/lang/Cloneable" (some 0) with
  accessFlags := 1537
  interfaces := #[]
  cf := some (fileOf pool16 1 #[] #[] 1537 3 #[] #[])
  fields := #[]
  methods := #[]
  instanceTypes := #[]
  staticTypes := #[]
  resolved := Array.replicate 7 none
  statics := none }

def pool17 : Array CpInfo := pool [(1, .methodref 2 3), (0, .class_ 4), (0, .nameAndType 5 6), (0, u "java/util/AbstractList"), (0, u "<init>"), (0, u "()V"), (0, .class_ 8), (0, u "java/lang/Object"), (0, .fieldref 10 11), (0, .class_ 12), (0, .nameAndType 13 14), (0, u "java/util/ArrayList"), (0, u "elementData"), (0, u "[Ljava/lang/Object;"), (2, u "EMPTY_ELEMENTDATA"), (21, .fieldref 10 40), (0, .nameAndType 41 14), (0, u "DEFAULTCAPACITY_EMPTY_ELEMENTDATA"), (5, u "()[Ljava/lang/Object;"), (0, .fieldref 10 49), (0, .nameAndType 50 51), (0, u "size"), (0, u "I"), (11, .fieldref 10 64), (0, .nameAndType 65 51), (0, u "modCount"), (3, .methodref 10 70), (0, .nameAndType 71 72), (0, u "grow"), (0, u "(I)[Ljava/lang/Object;"), (6, .methodref 80 81), (0, .class_ 82), (0, .nameAndType 83 84), (0, u "java/lang/Math"), (0, u "max"), (0, u "(II)I"), (11, u "(Ljava/lang/Object;)Z"), (21, .methodref 119 120), (0, .class_ 121), (0, .nameAndType 122 84), (0, u "java/util/Objects"), (0, u "checkIndex"), (0, .methodref 10 124), (0, .nameAndType 13 125), (0, u "(I)Ljava/lang/Object;"), (3, .methodref 10 130), (0, .nameAndType 71 47), (0, .methodref 10 132), (0, .nameAndType 133 134), (0, u "add"), (0, u "(Ljava/lang/Object;[Ljava/lang/Object;I)V"), (13, .class_ 149), (0, u "java/util/List"), (36, u "()I"), (75, .class_ 263), (0, u "java/util/ArrayList$ListItr"), (3, .class_ 268), (0, u "java/util/ArrayList$Itr"), (7, .class_ 277), (0, u "java/util/ArrayList$SubList"), (12, .class_ 291), (0, u "java/util/ArrayList$ArrayListSpliterator"), (37, .class_ 330), (0, u "java/util/RandomAccess"), (0, .class_ 332), (0, u "java/lang/Cloneable"), (0, .class_ 334), (0, u "java/io/Serializable"), (0, u "serialVersionUID"), (0, u "J"), (3, u "DEFAULT_CAPACITY"), (40, u "get"), (118, .class_ 501), (0, u "java/util/ArrayList$SubList$2"), (0, .class_ 503), (0, u "java/util/ArrayList$SubList$1")] 5

def k17c0 : Code := ⟨2, 1, jdk_38_method_2_code, #[], #[]⟩
def k17m0 : Method := ⟨"<init>", "()V", ⟨[], none⟩, 1, some k17c0⟩
def k17c1 : Code := ⟨4, 4, jdk_38_method_6_code, #[], #[]⟩
def k17m1 : Method := ⟨"grow", "(I)[Ljava/lang/Object;", ⟨[.int], some (.array (.object "java/lang/Object"))⟩, 2, some k17c1⟩
def k17c2 : Code := ⟨3, 1, jdk_38_method_7_code, #[], #[]⟩
def k17m2 : Method := ⟨"grow", "()[Ljava/lang/Object;", ⟨[], some (.array (.object "java/lang/Object"))⟩, 2, some k17c2⟩
def k17c3 : Code := ⟨1, 1, jdk_38_method_8_code, #[], #[]⟩
def k17m3 : Method := ⟨"size", "()I", ⟨[], some .int⟩, 1, some k17c3⟩
def k17c4 : Code := ⟨2, 2, jdk_38_method_18_code, #[], #[]⟩
def k17m4 : Method := ⟨"elementData", "(I)Ljava/lang/Object;", ⟨[.int], some (.object "java/lang/Object")⟩, 0, some k17c4⟩
def k17c5 : Code := ⟨2, 2, jdk_38_method_20_code, #[], #[]⟩
def k17m5 : Method := ⟨"get", "(I)Ljava/lang/Object;", ⟨[.int], some (.object "java/lang/Object")⟩, 1, some k17c5⟩
def k17c6 : Code := ⟨3, 4, jdk_38_method_24_code, #[], #[]⟩
def k17m6 : Method := ⟨"add", "(Ljava/lang/Object;[Ljava/lang/Object;I)V", ⟨[(.object "java/lang/Object"), (.array (.object "java/lang/Object")), .int], none⟩, 2, some k17c6⟩
def k17c7 : Code := ⟨4, 2, jdk_38_method_25_code, #[], #[]⟩
def k17m7 : Method := ⟨"add", "(Ljava/lang/Object;)Z", ⟨[(.object "java/lang/Object")], some .boolean⟩, 1, some k17c7⟩
/-- java/util/ArrayList -/
def k17 : Class := { plain "java/util/ArrayList" (some 14) with
  accessFlags := 33
  interfaces := #[13, 15, 16, 2]
  cf := some (fileOf pool17 10 #[.nestMembers #[290, 276, 500, 502, 262, 267]] #[⟨1, 5, 6, #[]⟩, ⟨2, 71, 72, #[]⟩, ⟨2, 71, 47, #[]⟩, ⟨1, 50, 186, #[]⟩, ⟨0, 13, 125, #[]⟩, ⟨1, 381, 125, #[]⟩, ⟨2, 133, 134, #[]⟩, ⟨1, 133, 96, #[]⟩] 33 2 #[148, 329, 331, 333] #[⟨26, 335, 336, #[]⟩, ⟨26, 340, 51, #[]⟩, ⟨26, 17, 14, #[]⟩, ⟨26, 41, 14, #[]⟩, ⟨128, 13, 14, #[]⟩, ⟨2, 50, 51, #[]⟩])
  fields := #[⟨"serialVersionUID", .long, 26, 0, 0⟩, ⟨"DEFAULT_CAPACITY", .int, 26, 1, 0⟩, ⟨"EMPTY_ELEMENTDATA", (.array (.object "java/lang/Object")), 26, 2, 0⟩, ⟨"DEFAULTCAPACITY_EMPTY_ELEMENTDATA", (.array (.object "java/lang/Object")), 26, 3, 0⟩, ⟨"elementData", (.array (.object "java/lang/Object")), 128, 1, 0⟩, ⟨"size", .int, 2, 2, 0⟩]
  methods := #[k17m0, k17m1, k17m2, k17m3, k17m4, k17m5, k17m6, k17m7]
  instanceTypes := #[.int, (.array (.object "java/lang/Object")), .int]
  staticTypes := #[.long, .int, (.array (.object "java/lang/Object")), (.array (.object "java/lang/Object"))]
  resolved := Array.replicate 509 none
  statics := some 1 }

def pool18 : Array CpInfo := pool [(1, .class_ 2), (0, u "java/lang/Math"), (1, .class_ 6), (1, u "java/lang/Object"), (0, u "<init>"), (0, u "()V"), (89, .class_ 100), (1, u "java/lang/Math$RandomNumberGeneratorHolder"), (71, u "negativeZeroFloatBits"), (0, u "J"), (2, u "negativeZeroDoubleBits"), (21, u "max"), (46, u "$assertionsDisabled"), (0, u "Z"), (88, u "(II)I"), (2, u "twoToTheDoubleScaleDown"), (0, u "D"), (4, u "twoToTheDoubleScaleUp"), (9, u "E"), (3, u "PI"), (2, u "TAU"), (2, u "DEGREES_TO_RADIANS"), (0, u "RADIANS_TO_DEGREES")] 94

def k18m0 : Method := ⟨"<init>", "()V", ⟨[], none⟩, 2, none⟩
def k18c1 : Code := ⟨2, 2, jdk_29_method_65_code, #[], #[]⟩
def k18m1 : Method := ⟨"max", "(II)I", ⟨[.int, .int], some .int⟩, 9, some k18c1⟩
/-- java/lang/Math -/
def k18 : Class := { plain "java/lang/Math" (some 0) with
  accessFlags := 49
  interfaces := #[]
  cf := some (fileOf pool18 1 #[.nestMembers #[98]] #[⟨2, 7, 8, #[]⟩, ⟨9, 198, 335, #[]⟩] 49 4 #[] #[⟨25, 354, 339, #[]⟩, ⟨25, 358, 339, #[]⟩, ⟨25, 361, 339, #[]⟩, ⟨26, 364, 339, #[]⟩, ⟨26, 365, 339, #[]⟩, ⟨26, 172, 173, #[]⟩, ⟨26, 176, 173, #[]⟩, ⟨8, 344, 339, #[]⟩, ⟨8, 338, 339, #[]⟩, ⟨4120, 245, 246, #[]⟩])
  fields := #[⟨"E", .double, 25, 0, 0⟩, ⟨"PI", .double, 25, 1, 0⟩, ⟨"TAU", .double, 25, 2, 0⟩, ⟨"DEGREES_TO_RADIANS", .double, 26, 3, 0⟩, ⟨"RADIANS_TO_DEGREES", .double, 26, 4, 0⟩, ⟨"negativeZeroFloatBits", .long, 26, 5, 0⟩, ⟨"negativeZeroDoubleBits", .long, 26, 6, 0⟩, ⟨"twoToTheDoubleScaleUp", .double, 8, 7, 0⟩, ⟨"twoToTheDoubleScaleDown", .double, 8, 8, 0⟩, ⟨"$assertionsDisabled", .boolean, 4120, 9, 0⟩]
  methods := #[k18m0, k18m1]
  instanceTypes := #[]
  staticTypes := #[.double, .double, .double, .double, .double, .long, .long, .double, .double, .boolean]
  resolved := Array.replicate 460 none
  statics := none }

def pool19 : Array CpInfo := pool [(1, .methodref 2 3), (0, .class_ 4), (0, .nameAndType 5 6), (0, u "java/lang/Object"), (0, u "<init>"), (0, u "()V"), (0, .class_ 8), (0, u "java/lang/Record")] 13

def k19c0 : Code := ⟨1, 1, jdk_30_method_1_code, #[], #[]⟩
def k19m0 : Method := ⟨"<init>", "()V", ⟨[], none⟩, 4, some k19c0⟩
/-- java/lang/Record -/
def k19 : Class := { plain "java/lang/Record" (some 0) with
  accessFlags := 1057
  interfaces := #[]
  cf := some (fileOf pool19 7 #[] #[⟨4, 5, 6, #[]⟩] 1057 2 #[] #[])
  fields := #[]
  methods := #[k19m0]
  instanceTypes := #[]
  staticTypes := #[]
  resolved := Array.replicate 22 none
  statics := none }

def pool20 : Array CpInfo := pool [(1, .methodref 2 3), (0, .class_ 4), (0, .nameAndType 5 6), (0, u "java/lang/Record"), (0, u "<init>"), (0, u "()V"), (0, .fieldref 8 9), (0, .class_ 10), (0, .nameAndType 11 12), (0, u "com/example/hedgerow/hedgerow/records/Record"), (0, u "id"), (0, u "Ljava/lang/String;"), (0, .fieldref 8 14), (0, .nameAndType 15 12), (0, u "object"), (0, .fieldref 8 17), (0, .nameAndType 18 12), (0, u "owner"), (0, .fieldref 8 20), (0, .nameAndType 21 22), (0, u "fields"), (0, u "Ljava/util/Map;"), (0, .class_ 24), (0, u "java/util/LinkedHashMap"), (0, .methodref 23 3), (0, .interfaceMethodref 27 28), (0, .class_ 29), (0, .nameAndType 30 31), (0, u "java/util/List"), (0, u "size"), (0, u "()I"), (0, .interfaceMethodref 27 33), (0, .nameAndType 34 35), (0, u "get"), (0, u "(I)Ljava/lang/Object;"), (0, .class_ 37), (0, u "java/lang/String"), (0, .interfaceMethodref 39 40), (0, .class_ 41), (0, .nameAndType 42 43), (0, u "java/util/Map"), (0, u "put"), (0, u "(Ljava/lang/Object;Ljava/lang/Object;)Ljava/lang/Object;"), (0, .methodref 45 46), (0, .class_ 47), (0, .nameAndType 48 49), (0, u "java/util/Collections"), (0, u "unmodifiableMap"), (0, u "(Ljava/util/Map;)Ljava/util/Map;"), (0, .methodref 8 51), (0, .nameAndType 5 52), (0, u "(Ljava/lang/String;Ljava/lang/String;Ljava/lang/String;Ljava/util/Map;)V"), (71, u "of"), (0, u "(Ljava/lang/String;Ljava/lang/String;Ljava/lang/String;Ljava/util/List;Ljava/util/List;)Lcom/example/hedgerow/hedgerow/records/Record;"), (2, u "withOwner"), (0, u "(Ljava/lang/String;)Lcom/example/hedgerow/hedgerow/records/Record;"), (4, u "()Ljava/lang/String;"), (0, u "()Ljava/util/Map;")] 33

def k20c0 : Code := ⟨2, 5, prog_9_method_1_code, #[], #[]⟩
def k20m0 : Method := ⟨"<init>", "(Ljava/lang/String;Ljava/lang/String;Ljava/lang/String;Ljava/util/Map;)V", ⟨[(.object "java/lang/String"), (.object "java/lang/String"), (.object "java/lang/String"), (.object "java/util/Map")], none⟩, 1, some k20c0⟩
def k20c1 : Code := ⟨6, 7, prog_9_method_2_code, #[], #[]⟩
def k20m1 : Method := ⟨"of", "(Ljava/lang/String;Ljava/lang/String;Ljava/lang/String;Ljava/util/List;Ljava/util/List;)Lcom/example/hedgerow/hedgerow/records/Record;", ⟨[(.object "java/lang/String"), (.object "java/lang/String"), (.object "java/lang/String"), (.object "java/util/List"), (.object "java/util/List")], some (.object "com/example/hedgerow/hedgerow/records/Record")⟩, 8, some k20c1⟩
def k20c2 : Code := ⟨6, 2, prog_9_method_3_code, #[], #[]⟩
def k20m2 : Method := ⟨"withOwner", "(Ljava/lang/String;)Lcom/example/hedgerow/hedgerow/records/Record;", ⟨[(.object "java/lang/String")], some (.object "com/example/hedgerow/hedgerow/records/Record")⟩, 1, some k20c2⟩
def k20c3 : Code := ⟨1, 1, prog_9_method_8_code, #[], #[]⟩
def k20m3 : Method := ⟨"id", "()Ljava/lang/String;", ⟨[], some (.object "java/lang/String")⟩, 1, some k20c3⟩
def k20c4 : Code := ⟨1, 1, prog_9_method_9_code, #[], #[]⟩
def k20m4 : Method := ⟨"object", "()Ljava/lang/String;", ⟨[], some (.object "java/lang/String")⟩, 1, some k20c4⟩
def k20c5 : Code := ⟨1, 1, prog_9_method_10_code, #[], #[]⟩
def k20m5 : Method := ⟨"owner", "()Ljava/lang/String;", ⟨[], some (.object "java/lang/String")⟩, 1, some k20c5⟩
def k20c6 : Code := ⟨1, 1, prog_9_method_11_code, #[], #[]⟩
def k20m6 : Method := ⟨"fields", "()Ljava/util/Map;", ⟨[], some (.object "java/util/Map")⟩, 1, some k20c6⟩
/-- com/example/hedgerow/hedgerow/records/Record -/
def k20 : Class := { plain "com/example/hedgerow/hedgerow/records/Record" (some 19) with
  accessFlags := 49
  interfaces := #[]
  cf := some (fileOf pool20 8 #[] #[⟨1, 5, 52, #[]⟩, ⟨8, 124, 125, #[]⟩, ⟨1, 128, 129, #[]⟩, ⟨1, 11, 134, #[]⟩, ⟨1, 15, 134, #[]⟩, ⟨1, 18, 134, #[]⟩, ⟨1, 21, 135, #[]⟩] 49 2 #[] #[⟨18, 11, 12, #[]⟩, ⟨18, 15, 12, #[]⟩, ⟨18, 18, 12, #[]⟩, ⟨18, 21, 22, #[]⟩])
  fields := #[⟨"id", (.object "java/lang/String"), 18, 0, 0⟩, ⟨"object", (.object "java/lang/String"), 18, 1, 0⟩, ⟨"owner", (.object "java/lang/String"), 18, 2, 0⟩, ⟨"fields", (.object "java/util/Map"), 18, 3, 0⟩]
  methods := #[k20m0, k20m1, k20m2, k20m3, k20m4, k20m5, k20m6]
  instanceTypes := #[(.object "java/lang/String"), (.object "java/lang/String"), (.object "java/lang/String"), (.object "java/util/Map")]
  staticTypes := #[]
  resolved := Array.replicate 169 none
  statics := none }

def pool21 : Array CpInfo := pool [(2, .class_ 4), (1, u "java/util/Map"), (31, .class_ 37), (0, u "java/util/Map$Entry"), (25, u "(Ljava/lang/Object;Ljava/lang/Object;)Ljava/lang/Object;"), (5, u "put"), (23, .class_ 94), (0, u "java/lang/Object")] 168

def k21m0 : Method := ⟨"put", "(Ljava/lang/Object;Ljava/lang/Object;)Ljava/lang/Object;", ⟨[(.object "java/lang/Object"), (.object "java/lang/Object")], some (.object "java/lang/Object")⟩, 1025, none⟩
/-- java/util/Map -/
def k21 : Class := { plain "java/util/Map" (some 0) with
  accessFlags := 1537
  interfaces := #[]
  cf := some (fileOf pool21 2 #[.nestMembers #[36]] #[⟨1025, 69, 63, #[]⟩] 1537 93 #[] #[])
  fields := #[]
  methods := #[k21m0]
  instanceTypes := #[]
  staticTypes := #[]
  resolved := Array.replicate 263 none
  statics := none }

def pool22 : Array CpInfo := pool [(1, .methodref 2 3), (0, .class_ 4), (0, .nameAndType 5 6), (0, u "java/lang/Object"), (0, u "<init>"), (0, u "()V"), (1, .class_ 10), (1, u "java/util/AbstractMap"), (42, .class_ 54), (0, u "java/util/Map"), (9, u "keySet"), (0, u "Ljava/util/Set;"), (0, .class_ 67), (0, u "java/util/AbstractMap$1"), (5, u "values"), (0, u "Ljava/util/Collection;"), (0, .class_ 76), (0, u "java/util/AbstractMap$2"), (104, .class_ 182), (0, u "java/util/AbstractMap$ViewCollection"), (0, .class_ 184), (0, u "java/util/AbstractMap$SimpleImmutableEntry"), (0, .class_ 186), (0, u "java/util/AbstractMap$SimpleEntry"), (0, .class_ 188), (0, u "java/util/AbstractMap$2$1"), (0, .class_ 190), (0, u "java/util/AbstractMap$1$1")] 5

def k22c0 : Code := ⟨1, 1, jdk_71_method_1_code, #[], #[]⟩
def k22m0 : Method := ⟨"<init>", "()V", ⟨[], none⟩, 4, some k22c0⟩
/-- java/util/AbstractMap -/
def k22 : Class := { plain "java/util/AbstractMap" (some 0) with
  accessFlags := 1057
  interfaces := #[21]
  cf := some (fileOf pool22 8 #[.nestMembers #[181, 183, 185, 75, 187, 66, 189]] #[⟨4, 5, 6, #[]⟩] 1057 2 #[53] #[⟨128, 64, 65, #[]⟩, ⟨128, 73, 74, #[]⟩])
  fields := #[⟨"keySet", (.object "java/util/Set"), 128, 0, 0⟩, ⟨"values", (.object "java/util/Collection"), 128, 1, 0⟩]
  methods := #[k22m0]
  instanceTypes := #[(.object "java/util/Set"), (.object "java/util/Collection")]
  staticTypes := #[]
  resolved := Array.replicate 196 none
  statics := none }

def pool23 : Array CpInfo := pool [(1, .methodref 2 3), (0, .class_ 4), (0, .nameAndType 5 6), (0, u "java/lang/Object"), (0, u "hashCode"), (0, u "()I"), (26, u "(Ljava/lang/Object;)I"), (6, .class_ 41), (0, u "java/util/HashMap"), (1, .methodref 44 45), (0, .class_ 46), (0, .nameAndType 47 48), (0, u "java/util/AbstractMap"), (0, u "<init>"), (0, u "()V"), (32, .fieldref 40 82), (0, .nameAndType 83 84), (0, u "loadFactor"), (0, u "F"), (3, .fieldref 40 89), (0, .nameAndType 90 91), (0, u "threshold"), (0, u "I"), (0, .float 1061158912), (8, .class_ 103), (1, u "java/util/Map"), (0, u "size"), (0, .fieldref 40 106), (0, .nameAndType 107 108), (0, u "table"), (0, u "[Ljava/util/HashMap$Node;"), (8, .methodref 40 118), (0, .nameAndType 119 120), (0, u "resize"), (0, u "()[Ljava/util/HashMap$Node;"), (2, u "entrySet"), (25, .methodref 40 150), (0, .nameAndType 151 33), (0, u "hash"), (0, .methodref 40 153), (0, .nameAndType 154 155), (0, u "putVal"), (0, u "(ILjava/lang/Object;Ljava/lang/Object;ZZ)Ljava/lang/Object;"), (0, .fieldref 40 157), (0, .nameAndType 104 91), (5, .class_ 165), (1, u "java/util/HashMap$Node"), (14, .class_ 181), (0, u "java/util/HashMap$TreeNode"), (4, .methodref 40 187), (0, .nameAndType 188 189), (0, u "newNode"), (0, u "(ILjava/lang/Object;Ljava/lang/Object;Ljava/util/HashMap$Node;)Ljava/util/HashMap$Node;"), (12, .fieldref 40 203), (0, .nameAndType 204 91), (0, u "modCount"), (0, .methodref 40 206), (0, .nameAndType 207 208), (0, u "afterNodeInsertion"), (0, u "(Z)V"), (33, u "Ljava/util/Set;"), (0, .class_ 244), (0, u "java/util/HashMap$KeySet"), (18, .class_ 264), (0, u "java/util/HashMap$Values"), (3, .class_ 269), (0, u "java/util/HashMap$EntrySet"), (17, u "(Ljava/lang/Object;Ljava/lang/Object;)Ljava/lang/Object;"), (58, .class_ 348), (1, u "java/util/HashMap$UnsafeHolder"), (43, .class_ 393), (0, u "java/lang/Cloneable"), (0, .class_ 395), (0, u "java/io/Serializable"), (0, u "serialVersionUID"), (0, u "J"), (3, u "DEFAULT_INITIAL_CAPACITY"), (1, u "MAXIMUM_CAPACITY"), (0, u "DEFAULT_LOAD_FACTOR"), (0, u "TREEIFY_THRESHOLD"), (1, u "UNTREEIFY_THRESHOLD"), (1, u "MIN_TREEIFY_CAPACITY"), (60, u "put"), (125, .class_ 597), (0, u "java/util/HashMap$EntrySpliterator"), (0, .class_ 599), (0, u "java/util/HashMap$ValueSpliterator"), (0, .class_ 601), (0, u "java/util/HashMap$KeySpliterator"), (0, .class_ 603), (0, u "java/util/HashMap$HashMapSpliterator"), (0, .class_ 605), (0, u "java/util/HashMap$EntryIterator"), (0, .class_ 607), (0, u "java/util/HashMap$ValueIterator"), (0, .class_ 609), (0, u "java/util/HashMap$KeyIterator"), (0, .class_ 611), (0, u "java/util/HashMap$HashIterator")] 17

def k23c0 : Code := ⟨3, 2, jdk_69_method_1_code, #[], #[]⟩
def k23m0 : Method := ⟨"hash", "(Ljava/lang/Object;)I", ⟨[(.object "java/lang/Object")], some .int⟩, 24, some k23c0⟩
def k23c1 : Code := ⟨2, 1, jdk_69_method_7_code, #[], #[]⟩
def k23m1 : Method := ⟨"<init>", "()V", ⟨[], none⟩, 1, some k23c1⟩
def k23c2 : Code := ⟨6, 3, jdk_69_method_15_code, #[], #[]⟩
def k23m2 : Method := ⟨"put", "(Ljava/lang/Object;Ljava/lang/Object;)Ljava/lang/Object;", ⟨[(.object "java/lang/Object"), (.object "java/lang/Object")], some (.object "java/lang/Object")⟩, 1, some k23c2⟩
def k23c3 : Code := ⟨7, 13, jdk_69_method_16_code, #[], #[]⟩
def k23m3 : Method := ⟨"putVal", "(ILjava/lang/Object;Ljava/lang/Object;ZZ)Ljava/lang/Object;", ⟨[.int, (.object "java/lang/Object"), (.object "java/lang/Object"), .boolean, .boolean], some (.object "java/lang/Object")⟩, 16, some k23c3⟩
def k23c4 : Code := ⟨5, 14, jdk_69_method_17_code, #[], #[]⟩
def k23m4 : Method := ⟨"resize", "()[Ljava/util/HashMap$Node;", ⟨[], some (.array (.object "java/util/HashMap$Node"))⟩, 16, some k23c4⟩
def k23c5 : Code := ⟨6, 5, object_method_1_code, #[], #[]⟩
def k23m5 : Method := ⟨"newNode", "(ILjava/lang/Object;Ljava/lang/Object;Ljava/util/HashMap$Node;)Ljava/util/HashMap$Node;", ⟨[.int, (.object "java/lang/Object"), (.object "java/lang/Object"), (.object "java/util/HashMap$Node")], some (.object "java/util/HashMap$Node")⟩, 0, some k23c5⟩
def k23c6 : Code := ⟨0, 2, object_method_1_code, #[], #[]⟩
def k23m6 : Method := ⟨"afterNodeInsertion", "(Z)V", ⟨[.boolean], none⟩, 0, some k23c6⟩
/-- java/util/HashMap -/
def k23 : Class := { plain "java/util/HashMap" (some 22) with
  accessFlags := 33
  interfaces := #[21, 16, 2]
  cf := some (fileOf pool23 40 #[.nestMembers #[180, 596, 598, 600, 602, 604, 606, 608, 610, 346, 268, 263, 243, 163]] #[⟨24, 151, 33, #[]⟩, ⟨1, 47, 48, #[]⟩, ⟨1, 470, 287, #[]⟩, ⟨16, 154, 155, #[]⟩, ⟨16, 119, 120, #[]⟩, ⟨0, 188, 189, #[]⟩, ⟨0, 207, 208, #[]⟩] 33 44 #[101, 392, 394] #[⟨26, 396, 397, #[]⟩, ⟨24, 401, 91, #[]⟩, ⟨24, 403, 91, #[]⟩, ⟨24, 404, 84, #[]⟩, ⟨24, 405, 91, #[]⟩, ⟨24, 407, 91, #[]⟩, ⟨24, 409, 91, #[]⟩, ⟨128, 107, 108, #[]⟩, ⟨128, 123, 242, #[]⟩, ⟨128, 104, 91, #[]⟩, ⟨128, 204, 91, #[]⟩, ⟨0, 90, 91, #[]⟩, ⟨16, 83, 84, #[]⟩])
  fields := #[⟨"serialVersionUID", .long, 26, 0, 0⟩, ⟨"DEFAULT_INITIAL_CAPACITY", .int, 24, 1, 0⟩, ⟨"MAXIMUM_CAPACITY", .int, 24, 2, 0⟩, ⟨"DEFAULT_LOAD_FACTOR", .float, 24, 3, 0⟩, ⟨"TREEIFY_THRESHOLD", .int, 24, 4, 0⟩, ⟨"UNTREEIFY_THRESHOLD", .int, 24, 5, 0⟩, ⟨"MIN_TREEIFY_CAPACITY", .int, 24, 6, 0⟩, ⟨"table", (.array (.object "java/util/HashMap$Node")), 128, 2, 0⟩, ⟨"entrySet", (.object "java/util/Set"), 128, 3, 0⟩, ⟨"size", .int, 128, 4, 0⟩, ⟨"modCount", .int, 128, 5, 0⟩, ⟨"threshold", .int, 0, 6, 0⟩, ⟨"loadFactor", .float, 16, 7, 0⟩]
  methods := #[k23m0, k23m1, k23m2, k23m3, k23m4, k23m5, k23m6]
  instanceTypes := #[(.object "java/util/Set"), (.object "java/util/Collection"), (.array (.object "java/util/HashMap$Node")), (.object "java/util/Set"), .int, .int, .int, .float]
  staticTypes := #[.long, .int, .int, .float, .int, .int, .int]
  resolved := Array.replicate 629 none
  statics := none }

def pool24 : Array CpInfo := pool [(2, .class_ 4), (1, u "java/util/SequencedMap"), (38, .class_ 44), (0, u "java/util/SequencedMap$1SeqKeySet"), (3, .class_ 49), (0, u "java/util/SequencedMap$1SeqValues"), (1, .class_ 52), (0, u "java/util/SequencedMap$1SeqEntrySet"), (1, .class_ 55), (0, u "java/lang/Object"), (0, .class_ 57), (0, u "java/util/Map")] 48

/-- java/util/SequencedMap -/
def k24 : Class := { plain "java/util/SequencedMap" (some 0) with
  accessFlags := 1537
  interfaces := #[21]
  cf := some (fileOf pool24 2 #[.nestMembers #[51, 48, 43]] #[] 1537 54 #[56] #[])
  fields := #[]
  methods := #[]
  instanceTypes := #[]
  staticTypes := #[]
  resolved := Array.replicate 106 none
  statics := none }

def pool25 : Array CpInfo := pool [(1, .fieldref 2 3), (0, .class_ 4), (0, .nameAndType 5 6), (0, u "java/util/LinkedHashMap"), (0, u "putMode"), (0, u "I"), (0, .fieldref 2 8), (0, .nameAndType 9 10), (0, u "head"), (0, u "Ljava/util/LinkedHashMap$Entry;"), (0, .fieldref 2 12), (0, .nameAndType 13 10), (0, u "tail"), (1, .class_ 17), (1, u "java/util/LinkedHashMap$Entry"), (5, .class_ 25), (1, u "java/util/HashMap"), (1, u "()V"), (0, .methodref 15 29), (0, .nameAndType 30 31), (0, u "<init>"), (0, u "(ILjava/lang/Object;Ljava/lang/Object;Ljava/util/HashMap$Node;)V"), (0, .methodref 2 33), (0, .nameAndType 34 35), (0, u "linkNodeAtEnd"), (0, u "(Ljava/util/LinkedHashMap$Entry;)V"), (17, .methodref 2 54), (0, .nameAndType 55 56), (0, u "removeEldestEntry"), (0, u "(Ljava/util/Map$Entry;)Z"), (7, .fieldref 2 65), (0, .nameAndType 66 67), (0, u "accessOrder"), (0, u "Z"), (19, .methodref 23 88), (0, .nameAndType 30 27), (32, .class_ 122), (0, u "java/util/LinkedHashMap$LinkedKeySet"), (20, .class_ 144), (0, u "java/util/LinkedHashMap$LinkedValues"), (9, .class_ 155), (0, u "java/util/LinkedHashMap$LinkedEntrySet"), (44, .class_ 201), (0, u "java/util/LinkedHashMap$ReversedLinkedHashMapView"), (3, .class_ 206), (0, u "java/util/SequencedMap"), (0, u "serialVersionUID"), (0, u "J"), (5, u "PUT_NORM"), (1, u "PUT_FIRST"), (1, u "PUT_LAST"), (18, u "newNode"), (0, u "(ILjava/lang/Object;Ljava/lang/Object;Ljava/util/HashMap$Node;)Ljava/util/HashMap$Node;"), (22, u "afterNodeInsertion"), (0, u "(Z)V"), (99, .class_ 363), (0, u "java/util/LinkedHashMap$LinkedEntryIterator"), (0, .class_ 365), (0, u "java/util/LinkedHashMap$LinkedValueIterator"), (0, .class_ 367), (0, u "java/util/LinkedHashMap$LinkedKeyIterator"), (0, .class_ 369), (0, u "java/util/LinkedHashMap$LinkedHashIterator")] 16

def k25c0 : Code := ⟨2, 3, jdk_94_method_1_code, #[], #[]⟩
def k25m0 : Method := ⟨"linkNodeAtEnd", "(Ljava/util/LinkedHashMap$Entry;)V", ⟨[(.object "java/util/LinkedHashMap$Entry")], none⟩, 2, some k25c0⟩
def k25c1 : Code := ⟨6, 6, jdk_94_method_4_code, #[], #[]⟩
def k25m1 : Method := ⟨"newNode", "(ILjava/lang/Object;Ljava/lang/Object;Ljava/util/HashMap$Node;)Ljava/util/HashMap$Node;", ⟨[.int, (.object "java/lang/Object"), (.object "java/lang/Object"), (.object "java/util/HashMap$Node")], some (.object "java/util/HashMap$Node")⟩, 0, some k25c1⟩
def k25c2 : Code := ⟨6, 4, jdk_94_method_9_code, #[], #[]⟩
def k25m2 : Method := ⟨"afterNodeInsertion", "(Z)V", ⟨[.boolean], none⟩, 0, some k25c2⟩
def k25c3 : Code := ⟨2, 1, jdk_94_method_16_code, #[], #[]⟩
def k25m3 : Method := ⟨"<init>", "()V", ⟨[], none⟩, 1, some k25c3⟩
def k25c4 : Code := ⟨1, 2, jdk_94_method_23_code, #[], #[]⟩
def k25m4 : Method := ⟨"removeEldestEntry", "(Ljava/util/Map$Entry;)Z", ⟨[(.object "java/util/Map$Entry")], some .boolean⟩, 4, some k25c4⟩
/-- java/util/LinkedHashMap -/
def k25 : Class := { plain "java/util/LinkedHashMap" (some 23) with
  accessFlags := 33
  interfaces := #[24]
  cf := some (fileOf pool25 2 #[.nestMembers #[200, 362, 364, 366, 368, 154, 143, 121, 15]] #[⟨2, 34, 35, #[]⟩, ⟨0, 237, 238, #[]⟩, ⟨0, 261, 262, #[]⟩, ⟨1, 30, 27, #[]⟩, ⟨4, 55, 56, #[]⟩] 33 23 #[205] #[⟨26, 207, 208, #[]⟩, ⟨128, 9, 10, #[]⟩, ⟨128, 13, 10, #[]⟩, ⟨16, 66, 67, #[]⟩, ⟨24, 214, 6, #[]⟩, ⟨24, 216, 6, #[]⟩, ⟨24, 218, 6, #[]⟩, ⟨128, 5, 6, #[]⟩])
  fields := #[⟨"serialVersionUID", .long, 26, 0, 0⟩, ⟨"head", (.object "java/util/LinkedHashMap$Entry"), 128, 8, 0⟩, ⟨"tail", (.object "java/util/LinkedHashMap$Entry"), 128, 9, 0⟩, ⟨"accessOrder", .boolean, 16, 10, 0⟩, ⟨"PUT_NORM", .int, 24, 1, 0⟩, ⟨"PUT_FIRST", .int, 24, 2, 0⟩, ⟨"PUT_LAST", .int, 24, 3, 0⟩, ⟨"putMode", .int, 128, 11, 0⟩]
  methods := #[k25m0, k25m1, k25m2, k25m3, k25m4]
  instanceTypes := #[(.object "java/util/Set"), (.object "java/util/Collection"), (.array (.object "java/util/HashMap$Node")), (.object "java/util/Set"), .int, .int, .int, .float, (.object "java/util/LinkedHashMap$Entry"), (.object "java/util/LinkedHashMap$Entry"), .boolean, .int]
  staticTypes := #[.long, .int, .int, .int]
  resolved := Array.replicate 386 none
  mirror := some 3
  statics := none }

def pool26 : Array CpInfo := pool [(2, .class_ 4), (1, u "java/lang/Object"), (0, u "<init>"), (0, u "()V"), (35, .class_ 44), (1, u "java/util/Objects"), (60, .methodref 106 107), (0, .class_ 108), (0, .nameAndType 109 110), (0, u "jdk/internal/util/Preconditions"), (0, u "checkIndex"), (0, u "(IILjava/util/function/BiFunction;)I"), (60, u "(II)I")] 12

def k26m0 : Method := ⟨"<init>", "()V", ⟨[], none⟩, 2, none⟩
def k26c1 : Code := ⟨3, 2, jdk_31_method_17_code, #[], #[]⟩
def k26m1 : Method := ⟨"checkIndex", "(II)I", ⟨[.int, .int], some .int⟩, 9, some k26c1⟩
/-- java/util/Objects -/
def k26 : Class := { plain "java/util/Objects" (some 0) with
  accessFlags := 49
  interfaces := #[]
  cf := some (fileOf pool26 42 #[] #[⟨2, 5, 6, #[]⟩, ⟨9, 109, 171, #[]⟩] 49 2 #[] #[])
  fields := #[]
  methods := #[k26m0, k26m1]
  instanceTypes := #[]
  staticTypes := #[]
  resolved := Array.replicate 184 none
  statics := none }

def pool27 : Array CpInfo := pool [(2, .class_ 4), (1, u "java/lang/Object"), (0, u "<init>"), (0, u "()V"), (17, .class_ 26), (1, u "jdk/internal/util/Preconditions"), (6, u "checkIndex"), (21, .class_ 56), (0, u "jdk/internal/util/Preconditions$4"), (57, .class_ 115), (0, u "jdk/internal/util/Preconditions$1"), (7, u "SIOOBE_FORMATTER"), (0, u "Ljava/util/function/BiFunction;"), (0, .class_ 126), (0, u "jdk/internal/util/Preconditions$2"), (3, u "AIOOBE_FORMATTER"), (0, .class_ 132), (0, u "jdk/internal/util/Preconditions$3"), (3, u "IOOBE_FORMATTER"), (41, u "(IILjava/util/function/BiFunction;)I")] 15

def k27m0 : Method := ⟨"<init>", "()V", ⟨[], none⟩, 1, none⟩
def k27c1 : Code := ⟨3, 3, jdk_41_method_11_code, #[], #[]⟩
def k27m1 : Method := ⟨"checkIndex", "(IILjava/util/function/BiFunction;)I", ⟨[.int, .int, (.object "java/util/function/BiFunction")], some .int⟩, 9, some k27c1⟩
/-- jdk/internal/util/Preconditions -/
def k27 : Class := { plain "jdk/internal/util/Preconditions" (some 0) with
  accessFlags := 33
  interfaces := #[]
  cf := some (fileOf pool27 24 #[.nestMembers #[55, 131, 125, 114]] #[⟨1, 5, 6, #[]⟩, ⟨9, 33, 178, #[]⟩] 33 2 #[] #[⟨25, 123, 124, #[]⟩, ⟨25, 130, 124, #[]⟩, ⟨25, 136, 124, #[]⟩])
  fields := #[⟨"SIOOBE_FORMATTER", (.object "java/util/function/BiFunction"), 25, 0, 0⟩, ⟨"AIOOBE_FORMATTER", (.object "java/util/function/BiFunction"), 25, 1, 0⟩, ⟨"IOOBE_FORMATTER", (.object "java/util/function/BiFunction"), 25, 2, 0⟩]
  methods := #[k27m0, k27m1]
  instanceTypes := #[]
  staticTypes := #[(.object "java/util/function/BiFunction"), (.object "java/util/function/BiFunction"), (.object "java/util/function/BiFunction")]
  resolved := Array.replicate 194 none
  statics := some 2 }

def pool28 : Array CpInfo := pool [(4, .class_ 6), (1, u "java/lang/Object"), (0, u "<init>"), (0, u "()V"), (5, .class_ 16), (1, u "java/lang/StringLatin1"), (28, .class_ 47), (1, u "jdk/internal/util/ArraysSupport"), (9, u "([B)I"), (26, .methodref 45 85), (0, .nameAndType 86 87), (0, u "vectorizedHashCode"), (0, u "(Ljava/lang/Object;IIII)I"), (33, u "$assertionsDisabled"), (0, u "Z"), (98, .class_ 223), (1, u "java/lang/StringLatin1$LinesSpliterator"), (74, u "hashCode"), (91, .class_ 391), (0, u "java/lang/StringLatin1$CharsSpliterator")] 3

def k28m0 : Method := ⟨"<init>", "()V", ⟨[], none⟩, 0, none⟩
def k28c1 : Code := ⟨5, 1, jdk_43_method_21_code, #[], #[]⟩
def k28m1 : Method := ⟨"hashCode", "([B)I", ⟨[(.array .byte)], some .int⟩, 9, some k28c1⟩
/-- java/lang/StringLatin1 -/
def k28 : Class := { plain "java/lang/StringLatin1" (some 0) with
  accessFlags := 48
  interfaces := #[]
  cf := some (fileOf pool28 14 #[.nestMembers #[390, 221]] #[⟨0, 7, 8, #[]⟩, ⟨9, 298, 57, #[]⟩] 48 4 #[] #[⟨4120, 121, 122, #[]⟩])
  fields := #[⟨"$assertionsDisabled", .boolean, 4120, 0, 0⟩]
  methods := #[k28m0, k28m1]
  instanceTypes := #[]
  staticTypes := #[.boolean]
  resolved := Array.replicate 395 none
  statics := none }

def pool29 : Array CpInfo := pool [(9, u "<init>"), (6, .class_ 18), (1, u "java/lang/Object"), (0, u "()V"), (1, .class_ 23), (1, u "jdk/internal/util/ArraysSupport"), (0, u "LOG2_ARRAY_LONG_INDEX_SCALE"), (0, u "I"), (2, u "U"), (0, u "Ljdk/internal/misc/Unsafe;"), (8, u "BIG_ENDIAN"), (0, u "Z"), (8, u "LOG2_BYTE_BIT_SIZE"), (4, u "LOG2_ARRAY_INT_INDEX_SCALE"), (6, .class_ 61), (0, u "[B"), (0, .methodref 21 63), (0, .nameAndType 64 65), (0, u "signedHashCode"), (0, u "(I[BII)I"), (42, u "JLA"), (0, u "Ljdk/internal/access/JavaLangAccess;"), (11, u "LOG2_ARRAY_BOOLEAN_INDEX_SCALE"), (9, u "LOG2_ARRAY_BYTE_INDEX_SCALE"), (5, u "LOG2_ARRAY_CHAR_INDEX_SCALE"), (5, u "LOG2_ARRAY_SHORT_INDEX_SCALE"), (18, u "LOG2_ARRAY_FLOAT_INDEX_SCALE"), (24, u "LOG2_ARRAY_DOUBLE_INDEX_SCALE"), (89, u "T_BOOLEAN"), (2, u "T_CHAR"), (1, u "T_FLOAT"), (1, u "T_DOUBLE"), (1, u "T_BYTE"), (1, u "T_SHORT"), (1, u "T_INT"), (1, u "T_LONG"), (1, u "SOFT_MAX_ARRAY_LENGTH"), (26, u "vectorizedHashCode"), (0, u "(Ljava/lang/Object;IIII)I")] 55

def k29m0 : Method := ⟨"<init>", "()V", ⟨[], none⟩, 2, none⟩
def k29c1 : Code := ⟨4, 5, jdk_48_method_4_code, #[], #[]⟩
def k29m1 : Method := ⟨"vectorizedHashCode", "(Ljava/lang/Object;IIII)I", ⟨[(.object "java/lang/Object"), .int, .int, .int, .int], some .int⟩, 9, some k29c1⟩
def k29c2 : Code := ⟨3, 6, jdk_48_method_5_code, #[], #[]⟩
def k29m2 : Method := ⟨"signedHashCode", "(I[BII)I", ⟨[.int, (.array .byte), .int, .int], some .int⟩, 10, some k29c2⟩
/-- jdk/internal/util/ArraysSupport -/
def k29 : Class := { plain "jdk/internal/util/ArraysSupport" (some 0) with
  accessFlags := 33
  interfaces := #[]
  cf := some (fileOf pool29 21 #[] #[⟨2, 9, 19, #[]⟩, ⟨9, 321, 322, #[]⟩, ⟨10, 64, 65, #[]⟩] 33 16 #[] #[⟨24, 28, 29, #[]⟩, ⟨26, 38, 39, #[]⟩, ⟨25, 121, 25, #[]⟩, ⟨25, 131, 25, #[]⟩, ⟨25, 137, 25, #[]⟩, ⟨25, 143, 25, #[]⟩, ⟨25, 53, 25, #[]⟩, ⟨25, 24, 25, #[]⟩, ⟨25, 162, 25, #[]⟩, ⟨25, 187, 25, #[]⟩, ⟨26, 48, 25, #[]⟩, ⟨25, 277, 25, #[]⟩, ⟨25, 280, 25, #[]⟩, ⟨25, 282, 25, #[]⟩, ⟨25, 284, 25, #[]⟩, ⟨25, 286, 25, #[]⟩, ⟨25, 288, 25, #[]⟩, ⟨25, 290, 25, #[]⟩, ⟨25, 292, 25, #[]⟩, ⟨26, 108, 109, #[]⟩, ⟨25, 294, 25, #[]⟩])
  fields := #[⟨"U", (.object "jdk/internal/misc/Unsafe"), 24, 0, 0⟩, ⟨"BIG_ENDIAN", .boolean, 26, 1, 0⟩, ⟨"LOG2_ARRAY_BOOLEAN_INDEX_SCALE", .int, 25, 2, 0⟩, ⟨"LOG2_ARRAY_BYTE_INDEX_SCALE", .int, 25, 3, 0⟩, ⟨"LOG2_ARRAY_CHAR_INDEX_SCALE", .int, 25, 4, 0⟩, ⟨"LOG2_ARRAY_SHORT_INDEX_SCALE", .int, 25, 5, 0⟩, ⟨"LOG2_ARRAY_INT_INDEX_SCALE", .int, 25, 6, 0⟩, ⟨"LOG2_ARRAY_LONG_INDEX_SCALE", .int, 25, 7, 0⟩, ⟨"LOG2_ARRAY_FLOAT_INDEX_SCALE", .int, 25, 8, 0⟩, ⟨"LOG2_ARRAY_DOUBLE_INDEX_SCALE", .int, 25, 9, 0⟩, ⟨"LOG2_BYTE_BIT_SIZE", .int, 26, 10, 0⟩, ⟨"T_BOOLEAN", .int, 25, 11, 0⟩, ⟨"T_CHAR", .int, 25, 12, 0⟩, ⟨"T_FLOAT", .int, 25, 13, 0⟩, ⟨"T_DOUBLE", .int, 25, 14, 0⟩, ⟨"T_BYTE", .int, 25, 15, 0⟩, ⟨"T_SHORT", .int, 25, 16, 0⟩, ⟨"T_INT", .int, 25, 17, 0⟩, ⟨"T_LONG", .int, 25, 18, 0⟩, ⟨"JLA", (.object "jdk/internal/access/JavaLangAccess"), 26, 19, 0⟩, ⟨"SOFT_MAX_ARRAY_LENGTH", .int, 25, 20, 0⟩]
  methods := #[k29m0, k29m1, k29m2]
  instanceTypes := #[]
  staticTypes := #[(.object "jdk/internal/misc/Unsafe"), .boolean, .int, .int, .int, .int, .int, .int, .int, .int, .int, .int, .int, .int, .int, .int, .int, .int, .int, (.object "jdk/internal/access/JavaLangAccess"), .int]
  resolved := Array.replicate 378 none
  statics := none }

def pool30 : Array CpInfo := pool [(23, .class_ 25), (1, u "java/util/Map$Entry"), (6, .class_ 34), (1, u "java/util/Map"), (34, .class_ 70), (0, u "java/lang/Object")] 107

/-- java/util/Map$Entry -/
def k30 : Class := { plain "java/util/Map$Entry" (some 0) with
  accessFlags := 1537
  interfaces := #[]
  cf := some (fileOf pool30 23 #[.nestHost 32] #[] 1537 69 #[] #[])
  fields := #[]
  methods := #[]
  instanceTypes := #[]
  staticTypes := #[]
  resolved := Array.replicate 178 none
  statics := none }

def pool31 : Array CpInfo := pool [(1, .methodref 2 3), (0, .class_ 4), (0, .nameAndType 5 6), (0, u "java/lang/Object"), (0, u "<init>"), (0, u "()V"), (0, .fieldref 8 9), (0, .class_ 10), (0, .nameAndType 11 12), (0, u "java/util/HashMap$Node"), (0, u "hash"), (0, u "I"), (0, .fieldref 8 14), (0, .nameAndType 15 16), (0, u "key"), (0, u "Ljava/lang/Object;"), (0, .fieldref 8 18), (0, .nameAndType 19 16), (0, u "value"), (0, .fieldref 8 21), (0, .nameAndType 22 23), (0, u "next"), (0, u "Ljava/util/HashMap$Node;"), (22, .class_ 47), (0, u "java/util/Map$Entry"), (15, u "(ILjava/lang/Object;Ljava/lang/Object;Ljava/util/HashMap$Node;)V"), (24, .class_ 89), (0, u "java/util/HashMap")] 5

def k31c0 : Code := ⟨2, 5, jdk_70_method_1_code, #[], #[]⟩
def k31m0 : Method := ⟨"<init>", "(ILjava/lang/Object;Ljava/lang/Object;Ljava/util/HashMap$Node;)V", ⟨[.int, (.object "java/lang/Object"), (.object "java/lang/Object"), (.object "java/util/HashMap$Node")], none⟩, 0, some k31c0⟩
/-- java/util/HashMap$Node -/
def k31 : Class := { plain "java/util/HashMap$Node" (some 0) with
  accessFlags := 32
  interfaces := #[30]
  cf := some (fileOf pool31 8 #[.nestHost 88] #[⟨0, 5, 63, #[]⟩] 32 2 #[46] #[⟨16, 11, 12, #[]⟩, ⟨16, 15, 16, #[]⟩, ⟨0, 19, 16, #[]⟩, ⟨0, 22, 23, #[]⟩])
  fields := #[⟨"hash", .int, 16, 0, 0⟩, ⟨"key", (.object "java/lang/Object"), 16, 1, 0⟩, ⟨"value", (.object "java/lang/Object"), 0, 2, 0⟩, ⟨"next", (.object "java/util/HashMap$Node"), 0, 3, 0⟩]
  methods := #[k31m0]
  instanceTypes := #[.int, (.object "java/lang/Object"), (.object "java/lang/Object"), (.object "java/util/HashMap$Node")]
  staticTypes := #[]
  resolved := Array.replicate 95 none
  statics := none }

def pool32 : Array CpInfo := pool [(1, .methodref 2 3), (0, .class_ 4), (0, .nameAndType 5 6), (0, u "java/util/HashMap$Node"), (0, u "<init>"), (0, u "(ILjava/lang/Object;Ljava/lang/Object;Ljava/util/HashMap$Node;)V"), (0, .class_ 8), (0, u "java/util/LinkedHashMap$Entry"), (0, u "before"), (0, u "Ljava/util/LinkedHashMap$Entry;"), (2, u "after"), (20, .class_ 35), (0, u "java/util/LinkedHashMap")] 5

def k32c0 : Code := ⟨5, 5, jdk_83_method_1_code, #[], #[]⟩
def k32m0 : Method := ⟨"<init>", "(ILjava/lang/Object;Ljava/lang/Object;Ljava/util/HashMap$Node;)V", ⟨[.int, (.object "java/lang/Object"), (.object "java/lang/Object"), (.object "java/util/HashMap$Node")], none⟩, 0, some k32c0⟩
/-- java/util/LinkedHashMap$Entry -/
def k32 : Class := { plain "java/util/LinkedHashMap$Entry" (some 31) with
  accessFlags := 32
  interfaces := #[]
  cf := some (fileOf pool32 7 #[.nestHost 34] #[⟨0, 5, 6, #[]⟩] 32 2 #[] #[⟨0, 9, 10, #[]⟩, ⟨0, 13, 10, #[]⟩])
  fields := #[⟨"before", (.object "java/util/LinkedHashMap$Entry"), 0, 4, 0⟩, ⟨"after", (.object "java/util/LinkedHashMap$Entry"), 0, 5, 0⟩]
  methods := #[k32m0]
  instanceTypes := #[.int, (.object "java/lang/Object"), (.object "java/lang/Object"), (.object "java/util/HashMap$Node"), (.object "java/util/LinkedHashMap$Entry"), (.object "java/util/LinkedHashMap$Entry")]
  staticTypes := #[]
  resolved := Array.replicate 41 none
  statics := none }

def pool33 : Array CpInfo := pool [(2, .class_ 4), (1, u "java/lang/Object"), (0, u "<init>"), (0, u "()V"), (12, .class_ 20), (0, u "java/util/Collections"), (63, u "r"), (0, u "Ljava/util/Random;"), (77, .nameAndType 164 165), (0, u "getClass"), (0, u "()Ljava/lang/Class;"), (0, .class_ 167), (0, u "java/util/Collections$UnmodifiableCollection"), (6, .class_ 175), (0, u "java/util/Collections$UnmodifiableSequencedCollection"), (6, .class_ 183), (0, u "java/util/Collections$UnmodifiableSet"), (6, .class_ 191), (0, u "java/util/Collections$UnmodifiableSequencedSet"), (6, .class_ 199), (0, u "java/util/Collections$UnmodifiableSortedSet"), (6, .class_ 207), (0, u "java/util/Collections$UnmodifiableNavigableSet"), (4, .class_ 213), (0, u "java/util/Collections$UnmodifiableList"), (1, .class_ 216), (0, u "java/util/Collections$UnmodifiableRandomAccessList"), (3, .interfaceMethodref 221 163), (0, .class_ 222), (0, u "java/util/Map"), (0, .class_ 224), (0, u "java/util/Collections$UnmodifiableMap"), (0, .methodref 223 226), (0, .nameAndType 5 227), (0, u "(Ljava/util/Map;)V"), (3, .class_ 232), (0, u "java/util/Collections$UnmodifiableSequencedMap"), (4, .class_ 238), (0, u "java/util/Collections$UnmodifiableSortedMap"), (6, .class_ 246), (0, u "java/util/Collections$UnmodifiableNavigableMap"), (3, .class_ 251), (0, u "java/util/Collections$SynchronizedCollection"), (4, .class_ 257), (0, u "java/util/Collections$SynchronizedSet"), (4, .class_ 263), (0, u "java/util/Collections$SynchronizedSortedSet"), (1, .class_ 266), (0, u "java/util/Collections$SynchronizedNavigableSet"), (1, .class_ 269), (0, u "java/util/Collections$SynchronizedRandomAccessList"), (1, .class_ 272), (0, u "java/util/Collections$SynchronizedList"), (5, .class_ 279), (0, u "java/util/Collections$SynchronizedMap"), (1, .class_ 282), (0, u "java/util/Collections$SynchronizedSortedMap"), (1, .class_ 285), (0, u "java/util/Collections$SynchronizedNavigableMap"), (1, .class_ 288), (0, u "java/util/Collections$CheckedCollection"), (11, .class_ 301), (0, u "java/util/Collections$CheckedQueue"), (3, .class_ 306), (0, u "java/util/Collections$CheckedSet"), (3, .class_ 311), (0, u "java/util/Collections$CheckedSortedSet"), (3, .class_ 316), (0, u "java/util/Collections$CheckedNavigableSet"), (3, .class_ 321), (0, u "java/util/Collections$CheckedRandomAccessList"), (3, .class_ 326), (0, u "java/util/Collections$CheckedList"), (1, .class_ 329), (0, u "java/util/Collections$CheckedMap"), (3, .class_ 334), (0, u "java/util/Collections$CheckedSortedMap"), (3, .class_ 339), (0, u "java/util/Collections$CheckedNavigableMap"), (4, .class_ 346), (1, u "java/util/Collections$EmptyIterator"), (3, .class_ 352), (1, u "java/util/Collections$EmptyListIterator"), (2, .class_ 357), (1, u "java/util/Collections$EmptyEnumeration"), (4, u "EMPTY_SET"), (0, u "Ljava/util/Set;"), (6, u "EMPTY_LIST"), (0, u "Ljava/util/List;"), (2, u "EMPTY_MAP"), (0, u "Ljava/util/Map;"), (4, .class_ 381), (0, u "java/util/Collections$SingletonSet"), (2, .class_ 385), (0, u "java/util/Collections$1"), (1, .class_ 388), (0, u "java/util/Collections$2"), (1, .class_ 391), (0, u "java/util/Collections$SingletonList"), (1, .class_ 394), (0, u "java/util/Collections$SingletonMap"), (22, .class_ 418), (0, u "java/util/Collections$CopiesList"), (4, .class_ 425), (1, u "java/util/Collections$ReverseComparator"), (8, .class_ 435), (0, u "java/util/Collections$ReverseComparator2"), (6, .class_ 443), (0, u "java/util/Collections$3"), (25, .class_ 470), (0, u "java/util/Collections$SetFromMap"), (2, .class_ 474), (0, u "java/util/Collections$SequencedSetFromMap"), (3, .class_ 479), (0, u "java/util/Collections$AsLIFOQueue"), (11, .class_ 492), (0, u "java/util/Collections$EmptySet"), (1, .class_ 495), (0, u "java/util/Collections$EmptyList"), (1, .class_ 498), (0, u "java/util/Collections$EmptyMap"), (1, u "BINARYSEARCH_THRESHOLD"), (0, u "I"), (2, u "REVERSE_THRESHOLD"), (1, u "SHUFFLE_THRESHOLD"), (1, u "FILL_THRESHOLD"), (1, u "ROTATE_THRESHOLD"), (1, u "COPY_THRESHOLD"), (1, u "REPLACEALL_THRESHOLD"), (1, u "INDEXOFSUBLIST_THRESHOLD"), (132, u "unmodifiableMap"), (0, u "(Ljava/util/Map;)Ljava/util/Map;"), (199, .class_ 851), (0, u "java/util/Collections$CheckedMap$CheckedEntrySet"), (0, .class_ 853), (0, u "java/util/Collections$CheckedMap$CheckedEntrySet$CheckedEntry"), (0, .class_ 855), (0, u "java/util/Collections$CheckedMap$CheckedEntrySet$1"), (0, .class_ 857), (0, u "java/util/Collections$CheckedList$1"), (0, .class_ 859), (0, u "java/util/Collections$CheckedCollection$1"), (0, .class_ 861), (0, u "java/util/Collections$UnmodifiableNavigableMap$EmptyNavigableMap"), (0, .class_ 863), (0, u "java/util/Collections$UnmodifiableMap$UnmodifiableEntrySet"), (0, .class_ 865), (0, u "java/util/Collections$UnmodifiableMap$UnmodifiableEntrySet$UnmodifiableEntry"), (0, .class_ 867), (0, u "java/util/Collections$UnmodifiableMap$UnmodifiableEntrySet$UnmodifiableEntrySetSpliterator"), (0, .class_ 869), (0, u "java/util/Collections$UnmodifiableMap$UnmodifiableEntrySet$1"), (0, .class_ 871), (0, u "java/util/Collections$UnmodifiableList$1"), (0, .class_ 873), (0, u "java/util/Collections$UnmodifiableNavigableSet$EmptyNavigableSet"), (0, .class_ 875), (0, u "java/util/Collections$UnmodifiableCollection$1")] 57

def k33m0 : Method := ⟨"<init>", "()V", ⟨[], none⟩, 2, none⟩
def k33c1 : Code := ⟨3, 1, jdk_79_method_36_code, #[], #[]⟩
def k33m1 : Method := ⟨"unmodifiableMap", "(Ljava/util/Map;)Ljava/util/Map;", ⟨[(.object "java/util/Map")], some (.object "java/util/Map")⟩, 9, some k33c1⟩
/-- java/util/Collections -/
def k33 : Class := { plain "java/util/Collections" (some 0) with
  accessFlags := 33
  interfaces := #[]
  cf := some (fileOf pool33 19 #[.nestMembers #[478, 473, 469, 434, 423, 417, 393, 390, 380, 497, 494, 491, 355, 350, 344, 338, 333, 328, 850, 852, 854, 320, 325, 856, 315, 310, 305, 300, 287, 858, 284, 281, 278, 268, 271, 265, 262, 256, 250, 245, 860, 237, 231, 223, 862, 864, 866, 868, 215, 212, 870, 206, 872, 198, 190, 182, 174, 166, 874, 442, 387, 384]] #[⟨2, 5, 6, #[]⟩, ⟨9, 649, 650, #[]⟩] 33 2 #[] #[⟨26, 500, 501, #[]⟩, ⟨26, 504, 501, #[]⟩, ⟨26, 506, 501, #[]⟩, ⟨26, 508, 501, #[]⟩, ⟨26, 510, 501, #[]⟩, ⟨26, 512, 501, #[]⟩, ⟨26, 514, 501, #[]⟩, ⟨26, 516, 501, #[]⟩, ⟨10, 84, 85, #[]⟩, ⟨25, 362, 363, #[]⟩, ⟨25, 370, 371, #[]⟩, ⟨25, 374, 375, #[]⟩])
  fields := #[⟨"BINARYSEARCH_THRESHOLD", .int, 26, 0, 0⟩, ⟨"REVERSE_THRESHOLD", .int, 26, 1, 0⟩, ⟨"SHUFFLE_THRESHOLD", .int, 26, 2, 0⟩, ⟨"FILL_THRESHOLD", .int, 26, 3, 0⟩, ⟨"ROTATE_THRESHOLD", .int, 26, 4, 0⟩, ⟨"COPY_THRESHOLD", .int, 26, 5, 0⟩, ⟨"REPLACEALL_THRESHOLD", .int, 26, 6, 0⟩, ⟨"INDEXOFSUBLIST_THRESHOLD", .int, 26, 7, 0⟩, ⟨"r", (.object "java/util/Random"), 10, 8, 0⟩, ⟨"EMPTY_SET", (.object "java/util/Set"), 25, 9, 0⟩, ⟨"EMPTY_LIST", (.object "java/util/List"), 25, 10, 0⟩, ⟨"EMPTY_MAP", (.object "java/util/Map"), 25, 11, 0⟩]
  methods := #[k33m0, k33m1]
  instanceTypes := #[]
  staticTypes := #[.int, .int, .int, .int, .int, .int, .int, .int, (.object "java/util/Random"), (.object "java/util/Set"), (.object "java/util/List"), (.object "java/util/Map")]
  resolved := Array.replicate 933 none
  statics := none }

def pool34 : Array CpInfo := pool [(1, .methodref 2 3), (0, .class_ 4), (0, .nameAndType 5 6), (0, u "java/lang/Object"), (0, u "<init>"), (0, u "()V"), (3, .fieldref 11 12), (0, .class_ 13), (0, .nameAndType 14 15), (0, u "java/util/Collections$UnmodifiableMap"), (0, u "m"), (0, u "Ljava/util/Map;"), (1, .class_ 19), (1, u "java/util/Map"), (22, u "keySet"), (0, u "Ljava/util/Set;"), (4, .class_ 50), (1, u "java/util/Collections"), (4, u "entrySet"), (9, u "values"), (0, u "Ljava/util/Collection;"), (25, .class_ 93), (0, u "java/io/Serializable"), (0, u "serialVersionUID"), (0, u "J"), (8, u "(Ljava/util/Map;)V")] 70

def k34c0 : Code := ⟨2, 2, jdk_2500_method_1_code, #[], #[]⟩
def k34m0 : Method := ⟨"<init>", "(Ljava/util/Map;)V", ⟨[(.object "java/util/Map")], none⟩, 0, some k34c0⟩
/-- java/util/Collections$UnmodifiableMap -/
def k34 : Class := { plain "java/util/Collections$UnmodifiableMap" (some 0) with
  accessFlags := 32
  interfaces := #[21, 2]
  cf := some (fileOf pool34 11 #[.nestHost 48] #[⟨0, 5, 104, #[]⟩] 32 2 #[17, 92] #[⟨26, 94, 95, #[]⟩, ⟨16, 14, 15, #[]⟩, ⟨130, 42, 43, #[]⟩, ⟨130, 55, 43, #[]⟩, ⟨130, 65, 66, #[]⟩])
  fields := #[⟨"serialVersionUID", .long, 26, 0, 0⟩, ⟨"m", (.object "java/util/Map"), 16, 0, 0⟩, ⟨"keySet", (.object "java/util/Set"), 130, 1, 0⟩, ⟨"entrySet", (.object "java/util/Set"), 130, 2, 0⟩, ⟨"values", (.object "java/util/Collection"), 130, 3, 0⟩]
  methods := #[k34m0]
  instanceTypes := #[(.object "java/util/Map"), (.object "java/util/Set"), (.object "java/util/Set"), (.object "java/util/Collection")]
  staticTypes := #[.long]
  resolved := Array.replicate 175 none
  mirror := some 4
  statics := none }

def pool35 : Array CpInfo := pool [(1, u "java/lang/Class"), (0, .class_ 1), (0, u "java/lang/Object"), (0, .class_ 3)] 0

/-- java/lang/Class -/
def k35 : Class := { plain "java/lang/Class" (some 0) with
  accessFlags := 49
  interfaces := #[]
  cf := some (fileOf pool35 2 #[] #[] 49 4 #[] #[])
  fields := #[]
  methods := #[]
  instanceTypes := #[]
  staticTypes := #[]
  resolved := Array.replicate 5 none
  statics := none }

/-- the primitive byte -/
def k36 : Class := { plain "byte" none with kind := .primitive 'B', accessFlags := 0x411 }
/-- [B -/
def k37 : Class := { plain "[B" (some 0) with kind := .array 36 .byte, interfaces := #[16, 2], accessFlags := 1041 }

/-- the primitive char -/
def k38 : Class := { plain "char" none with kind := .primitive 'C', accessFlags := 0x411 }
/-- [C -/
def k39 : Class := { plain "[C" (some 0) with kind := .array 38 .char, interfaces := #[16, 2], accessFlags := 1041 }

/-- [Ljava/lang/Object; -/
def k40 : Class := { plain "[Ljava/lang/Object;" (some 0) with kind := .array 0 (.object "java/lang/Object"), interfaces := #[16, 2], accessFlags := 1041 }

/-- [Ljava/util/HashMap$Node; -/
def k41 : Class := { plain "[Ljava/util/HashMap$Node;" (some 0) with kind := .array 31 (.object "java/util/HashMap$Node"), interfaces := #[16, 2], accessFlags := 1041 }

def heap : Heap := #[{ cls := 7, slots := #[.long 0, .int 1, .null, .int 0, .null, .int 0, .int 0], vm := .statics 7 },
  { cls := 17, slots := #[.long 0, .int 0, .ref 5, .ref 6], vm := .statics 17 },
  { cls := 27, slots := #[.null, .null, .null], vm := .statics 27 },
  { cls := 35, slots := #[], vm := .mirror 25 },
  { cls := 35, slots := #[], vm := .mirror 34 },
  { cls := 40, slots := #[], vm := .none },
  { cls := 40, slots := #[], vm := .none }]
def classes : Array Class := #[k0, k1, k2, k3, k4, k5, k6, k7, k8, k9, k10, k11, k12, k13, k14, k15, k16, k17, k18, k19, k20, k21, k22, k23, k24, k25, k26, k27, k28, k29, k30, k31, k32, k33, k34, k35, k36, k37, k38, k39, k40, k41]
def interned : List (Array UInt16 × Addr) := []
def slotsUsed : Nat := 14
def theMethod : MethodId := ⟨1, 2⟩
def args0 : Array Value := #[.int 65, .int 66, .int 67, .int 68, .int 69]
def aboutOver (below : List Frame) : State where
  vm := { classes := classes, interned := interned.toArray }
  heap := heap
  slotsUsed := slotsUsed
  threads := #[{ frames := .invoking theMethod args0 :: below }]
def below0 : List Frame := [.native { method := ⟨0, 0⟩, args := #[] }]
def about1 : State := aboutOver below0
def p0 : Program := .bare "" "" ""
def e0 : Env := launch0.env 0 0 0
theorem w_frames : about1.frames = Frame.invoking theMethod args0 :: below0 := rfl
set_option maxRecDepth 65536 in
theorem w_args : argsFit about1.vm theMethod args0 = true := by decide +kernel
set_option maxRecDepth 65536 in
theorem w_heap : heapFits about1 = true := by decide +kernel
set_option maxRecDepth 65536 in
theorem w_runnable : about1.curStatus? = some .runnable := by decide +kernel
set_option maxRecDepth 65536 in
theorem w_alone : about1.alone = true := by decide +kernel
set_option maxRecDepth 65536 in
theorem w_named : about1.methodNamed? x = some theMethod := by decide +kernel
set_option maxRecDepth 65536 in
theorem w_hears : about1.hears theMethod below0 = true := by decide +kernel
set_option maxRecDepth 65536 in
theorem w_ripe : about1.ripe theMethod args0 below0 = true := by decide +kernel
theorem w_running : about1.status = .running := rfl
set_option maxRecDepth 65536 in
theorem w_room : about1.hasRoom e0.platform room_1 = true :=
  launch0.hasRoom_least _ room_1 (by decide +kernel) (by decide +kernel) (by decide +kernel) (by decide +kernel) (by decide +kernel) (by decide +kernel)
theorem allAtoms_all (ts : List Jvm.Cond) (a : Array Jvm.Value) (st : Jvm.State) : (allAtoms ts).before a st = ts.all (fun c => c.before a st) := by
  induction ts with
  | nil => rfl
  | cons c t ih =>
    show (Jvm.Cond.and c (allAtoms t)).before a st = _
    rw [Jvm.Cond.before_and, ih, List.all_cons]
def words1 : List Jvm.Cond := Jvm.Cond.code x code maxLocals ret :: tables_1
/-- a 'code' word, met by the world's own term for the bytes: nothing is compared byte by byte -/
theorem code_word {y : MethodName} {bytes : ByteArray} {mx : Nat} {rt : Option FieldType} {a : Array Value} {s : State} {m : MethodId} {meth : Method} {c : Code} (h1 : s.methodNamed? y = some m) (h2 : s.vm.method? m = some meth) (h3 : meth.code = some c) (h4 : c.code = bytes)
    (h5 : (c.maxLocals == mx && c.exceptionTable.isEmpty && decide (c.maxStack ≤ mostOperands) && decide (meth.sig.returnType = rt) && !meth.locks && decide (parseMethodDescriptor y.desc = some meth.sig)) = true) : (Jvm.Cond.code y bytes mx rt).before a s = true := by
  simp only [Bool.and_eq_true, beq_iff_eq, Bool.not_eq_true', decide_eq_true_eq] at h5
  obtain ⟨⟨⟨⟨⟨g1, g2⟩, g3⟩, g4⟩, g5⟩, g6⟩ := h5
  simp [Cond.before, Cond.holds, Cond.value, h1, h2, h3, h4, g1, g2, g3, g4, g5, g6]
def isCode : Jvm.Cond → Bool
  | .code _ _ _ _ => true
  | _ => false
theorem all_split {L : List Jvm.Cond} {P : Jvm.Cond → Bool} (h1 : L.all (fun c => isCode c || P c) = true) (h2 : ∀ c ∈ L.filter isCode, P c = true) : L.all P = true := by
  refine List.all_eq_true.mpr fun c hc => ?_
  have h := List.all_eq_true.mp h1 c hc
  rcases Bool.eq_false_or_eq_true (isCode c) with hi | hi
  · exact h2 c (List.mem_filter.mpr ⟨hc, hi⟩)
  · simpa [hi] using h
set_option maxRecDepth 65536 in
theorem w_c0 : (Jvm.Cond.code x code maxLocals ret).before args0 about1 = true := code_word (m := ⟨1, 2⟩) (meth := k1m2) (c := k1c2) (by decide +kernel) rfl rfl rfl (by decide +kernel)
set_option maxRecDepth 65536 in
theorem w_c1 : (Jvm.Cond.code ({ cls := "com/example/hedgerow/hedgerow/records/RecordWithOwnerPinLaw", name := "s2", desc := "(I)Ljava/lang/String;" } : Jvm.MethodName) method_2_code (2 : Nat) (Option.some (Jvm.ClassFile.FieldType.object "java/lang/String"))).before args0 about1 = true := code_word (m := ⟨1, 1⟩) (meth := k1m1) (c := k1c1) (by decide +kernel) rfl rfl rfl (by decide +kernel)
set_option maxRecDepth 65536 in
theorem w_c2 : (Jvm.Cond.code ({ cls := "java/lang/String", name := "<init>", desc := "([C)V" } : Jvm.MethodName) jdk_42_method_3_code (2 : Nat) (Option.none : Option Jvm.ClassFile.FieldType)).before args0 about1 = true := code_word (m := ⟨7, 1⟩) (meth := k7m1) (c := k7c1) (by decide +kernel) rfl rfl rfl (by decide +kernel)
set_option maxRecDepth 65536 in
theorem w_c3 : (Jvm.Cond.code ({ cls := "java/lang/String", name := "<init>", desc := "([CIILjava/lang/Void;)V" } : Jvm.MethodName) jdk_42_method_149_code (6 : Nat) (Option.none : Option Jvm.ClassFile.FieldType)).before args0 about1 = true := code_word (m := ⟨7, 3⟩) (meth := k7m3) (c := k7c3) (by decide +kernel) rfl rfl rfl (by decide +kernel)
set_option maxRecDepth 65536 in
theorem w_c4 : (Jvm.Cond.code ({ cls := "java/lang/Object", name := "<init>", desc := "()V" } : Jvm.MethodName) object_method_1_code (1 : Nat) (Option.none : Option Jvm.ClassFile.FieldType)).before args0 about1 = true := code_word (m := ⟨0, 0⟩) (meth := k0m0) (c := k0c0) (by decide +kernel) rfl rfl rfl (by decide +kernel)
set_option maxRecDepth 65536 in
theorem w_c5 : (Jvm.Cond.code ({ cls := "java/lang/StringUTF16", name := "compress", desc := "([CII)[B" } : Jvm.MethodName) jdk_52_method_16_code (6 : Nat) (Option.some (Jvm.ClassFile.FieldType.array Jvm.ClassFile.FieldType.byte))).before args0 about1 = true := code_word (m := ⟨8, 2⟩) (meth := k8m2) (c := k8c2) (by decide +kernel) rfl rfl rfl (by decide +kernel)
set_option maxRecDepth 65536 in
theorem w_c6 : (Jvm.Cond.code ({ cls := "java/lang/StringUTF16", name := "compress", desc := "([CI[BII)I" } : Jvm.MethodName) jdk_52_method_21_code (7 : Nat) (Option.some Jvm.ClassFile.FieldType.int)).before args0 about1 = true := code_word (m := ⟨8, 3⟩) (meth := k8m3) (c := k8c3) (by decide +kernel) rfl rfl rfl (by decide +kernel)
set_option maxRecDepth 65536 in
theorem w_c7 : (Jvm.Cond.code ({ cls := "java/lang/StringUTF16", name := "coderFromArrayLen", desc := "([BI)B" } : Jvm.MethodName) jdk_52_method_15_code (2 : Nat) (Option.some Jvm.ClassFile.FieldType.byte)).before args0 about1 = true := code_word (m := ⟨8, 1⟩) (meth := k8m1) (c := k8c1) (by decide +kernel) rfl rfl rfl (by decide +kernel)
set_option maxRecDepth 65536 in
theorem w_c8 : (Jvm.Cond.code ({ cls := "java/util/ArrayList", name := "<init>", desc := "()V" } : Jvm.MethodName) jdk_38_method_2_code (1 : Nat) (Option.none : Option Jvm.ClassFile.FieldType)).before args0 about1 = true := code_word (m := ⟨17, 0⟩) (meth := k17m0) (c := k17c0) (by decide +kernel) rfl rfl rfl (by decide +kernel)
set_option maxRecDepth 65536 in
theorem w_c9 : (Jvm.Cond.code ({ cls := "java/util/AbstractList", name := "<init>", desc := "()V" } : Jvm.MethodName) jdk_39_method_1_code (1 : Nat) (Option.none : Option Jvm.ClassFile.FieldType)).before args0 about1 = true := code_word (m := ⟨14, 0⟩) (meth := k14m0) (c := k14c0) (by decide +kernel) rfl rfl rfl (by decide +kernel)
set_option maxRecDepth 65536 in
theorem w_c10 : (Jvm.Cond.code ({ cls := "java/util/AbstractCollection", name := "<init>", desc := "()V" } : Jvm.MethodName) jdk_22_method_1_code (1 : Nat) (Option.none : Option Jvm.ClassFile.FieldType)).before args0 about1 = true := code_word (m := ⟨11, 0⟩) (meth := k11m0) (c := k11c0) (by decide +kernel) rfl rfl rfl (by decide +kernel)
set_option maxRecDepth 65536 in
theorem w_c11 : (Jvm.Cond.code ({ cls := "java/util/ArrayList", name := "add", desc := "(Ljava/lang/Object;)Z" } : Jvm.MethodName) jdk_38_method_25_code (2 : Nat) (Option.some Jvm.ClassFile.FieldType.boolean)).before args0 about1 = true := code_word (m := ⟨17, 7⟩) (meth := k17m7) (c := k17c7) (by decide +kernel) rfl rfl rfl (by decide +kernel)
set_option maxRecDepth 65536 in
theorem w_c12 : (Jvm.Cond.code ({ cls := "java/util/ArrayList", name := "add", desc := "(Ljava/lang/Object;[Ljava/lang/Object;I)V" } : Jvm.MethodName) jdk_38_method_24_code (4 : Nat) (Option.none : Option Jvm.ClassFile.FieldType)).before args0 about1 = true := code_word (m := ⟨17, 6⟩) (meth := k17m6) (c := k17c6) (by decide +kernel) rfl rfl rfl (by decide +kernel)
set_option maxRecDepth 65536 in
theorem w_c13 : (Jvm.Cond.code ({ cls := "java/util/ArrayList", name := "grow", desc := "()[Ljava/lang/Object;" } : Jvm.MethodName) jdk_38_method_7_code (1 : Nat) (Option.some (Jvm.ClassFile.FieldType.array (Jvm.ClassFile.FieldType.object "java/lang/Object")))).before args0 about1 = true := code_word (m := ⟨17, 2⟩) (meth := k17m2) (c := k17c2) (by decide +kernel) rfl rfl rfl (by decide +kernel)
set_option maxRecDepth 65536 in
theorem w_c14 : (Jvm.Cond.code ({ cls := "java/util/ArrayList", name := "grow", desc := "(I)[Ljava/lang/Object;" } : Jvm.MethodName) jdk_38_method_6_code (4 : Nat) (Option.some (Jvm.ClassFile.FieldType.array (Jvm.ClassFile.FieldType.object "java/lang/Object")))).before args0 about1 = true := code_word (m := ⟨17, 1⟩) (meth := k17m1) (c := k17c1) (by decide +kernel) rfl rfl rfl (by decide +kernel)
set_option maxRecDepth 65536 in
theorem w_c15 : (Jvm.Cond.code ({ cls := "java/lang/Math", name := "max", desc := "(II)I" } : Jvm.MethodName) jdk_29_method_65_code (2 : Nat) (Option.some Jvm.ClassFile.FieldType.int)).before args0 about1 = true := code_word (m := ⟨18, 1⟩) (meth := k18m1) (c := k18c1) (by decide +kernel) rfl rfl rfl (by decide +kernel)
set_option maxRecDepth 65536 in
theorem w_c16 : (Jvm.Cond.code ({ cls := "com/example/hedgerow/hedgerow/records/Record", name := "of", desc := "(Ljava/lang/String;Ljava/lang/String;Ljava/lang/String;Ljava/util/List;Ljava/util/List;)Lcom/example/hedgerow/hedgerow/records/Record;" } : Jvm.MethodName) prog_9_method_2_code (7 : Nat) (Option.some (Jvm.ClassFile.FieldType.object "com/example/hedgerow/hedgerow/records/Record"))).before args0 about1 = true := code_word (m := ⟨20, 1⟩) (meth := k20m1) (c := k20c1) (by decide +kernel) rfl rfl rfl (by decide +kernel)
set_option maxRecDepth 65536 in
theorem w_c17 : (Jvm.Cond.code ({ cls := "java/util/LinkedHashMap", name := "<init>", desc := "()V" } : Jvm.MethodName) jdk_94_method_16_code (1 : Nat) (Option.none : Option Jvm.ClassFile.FieldType)).before args0 about1 = true := code_word (m := ⟨25, 3⟩) (meth := k25m3) (c := k25c3) (by decide +kernel) rfl rfl rfl (by decide +kernel)
set_option maxRecDepth 65536 in
theorem w_c18 : (Jvm.Cond.code ({ cls := "java/util/HashMap", name := "<init>", desc := "()V" } : Jvm.MethodName) jdk_69_method_7_code (1 : Nat) (Option.none : Option Jvm.ClassFile.FieldType)).before args0 about1 = true := code_word (m := ⟨23, 1⟩) (meth := k23m1) (c := k23c1) (by decide +kernel) rfl rfl rfl (by decide +kernel)
set_option maxRecDepth 65536 in
theorem w_c19 : (Jvm.Cond.code ({ cls := "java/util/AbstractMap", name := "<init>", desc := "()V" } : Jvm.MethodName) jdk_71_method_1_code (1 : Nat) (Option.none : Option Jvm.ClassFile.FieldType)).before args0 about1 = true := code_word (m := ⟨22, 0⟩) (meth := k22m0) (c := k22c0) (by decide +kernel) rfl rfl rfl (by decide +kernel)
set_option maxRecDepth 65536 in
theorem w_c20 : (Jvm.Cond.code ({ cls := "java/util/ArrayList", name := "size", desc := "()I" } : Jvm.MethodName) jdk_38_method_8_code (1 : Nat) (Option.some Jvm.ClassFile.FieldType.int)).before args0 about1 = true := code_word (m := ⟨17, 3⟩) (meth := k17m3) (c := k17c3) (by decide +kernel) rfl rfl rfl (by decide +kernel)
set_option maxRecDepth 65536 in
theorem w_c21 : (Jvm.Cond.code ({ cls := "java/util/ArrayList", name := "get", desc := "(I)Ljava/lang/Object;" } : Jvm.MethodName) jdk_38_method_20_code (2 : Nat) (Option.some (Jvm.ClassFile.FieldType.object "java/lang/Object"))).before args0 about1 = true := code_word (m := ⟨17, 5⟩) (meth := k17m5) (c := k17c5) (by decide +kernel) rfl rfl rfl (by decide +kernel)
set_option maxRecDepth 65536 in
theorem w_c22 : (Jvm.Cond.code ({ cls := "java/util/Objects", name := "checkIndex", desc := "(II)I" } : Jvm.MethodName) jdk_31_method_17_code (2 : Nat) (Option.some Jvm.ClassFile.FieldType.int)).before args0 about1 = true := code_word (m := ⟨26, 1⟩) (meth := k26m1) (c := k26c1) (by decide +kernel) rfl rfl rfl (by decide +kernel)
set_option maxRecDepth 65536 in
theorem w_c23 : (Jvm.Cond.code ({ cls := "jdk/internal/util/Preconditions", name := "checkIndex", desc := "(IILjava/util/function/BiFunction;)I" } : Jvm.MethodName) jdk_41_method_11_code (3 : Nat) (Option.some Jvm.ClassFile.FieldType.int)).before args0 about1 = true := code_word (m := ⟨27, 1⟩) (meth := k27m1) (c := k27c1) (by decide +kernel) rfl rfl rfl (by decide +kernel)
set_option maxRecDepth 65536 in
theorem w_c24 : (Jvm.Cond.code ({ cls := "java/util/ArrayList", name := "elementData", desc := "(I)Ljava/lang/Object;" } : Jvm.MethodName) jdk_38_method_18_code (2 : Nat) (Option.some (Jvm.ClassFile.FieldType.object "java/lang/Object"))).before args0 about1 = true := code_word (m := ⟨17, 4⟩) (meth := k17m4) (c := k17c4) (by decide +kernel) rfl rfl rfl (by decide +kernel)
set_option maxRecDepth 65536 in
theorem w_c25 : (Jvm.Cond.code ({ cls := "java/util/HashMap", name := "put", desc := "(Ljava/lang/Object;Ljava/lang/Object;)Ljava/lang/Object;" } : Jvm.MethodName) jdk_69_method_15_code (3 : Nat) (Option.some (Jvm.ClassFile.FieldType.object "java/lang/Object"))).before args0 about1 = true := code_word (m := ⟨23, 2⟩) (meth := k23m2) (c := k23c2) (by decide +kernel) rfl rfl rfl (by decide +kernel)
set_option maxRecDepth 65536 in
theorem w_c26 : (Jvm.Cond.code ({ cls := "java/util/HashMap", name := "hash", desc := "(Ljava/lang/Object;)I" } : Jvm.MethodName) jdk_69_method_1_code (2 : Nat) (Option.some Jvm.ClassFile.FieldType.int)).before args0 about1 = true := code_word (m := ⟨23, 0⟩) (meth := k23m0) (c := k23c0) (by decide +kernel) rfl rfl rfl (by decide +kernel)
set_option maxRecDepth 65536 in
theorem w_c27 : (Jvm.Cond.code ({ cls := "java/lang/String", name := "hashCode", desc := "()I" } : Jvm.MethodName) jdk_42_method_78_code (2 : Nat) (Option.some Jvm.ClassFile.FieldType.int)).before args0 about1 = true := code_word (m := ⟨7, 2⟩) (meth := k7m2) (c := k7c2) (by decide +kernel) rfl rfl rfl (by decide +kernel)
set_option maxRecDepth 65536 in
theorem w_c28 : (Jvm.Cond.code ({ cls := "java/lang/String", name := "isLatin1", desc := "()Z" } : Jvm.MethodName) jdk_42_method_154_code (1 : Nat) (Option.some Jvm.ClassFile.FieldType.boolean)).before args0 about1 = true := code_word (m := ⟨7, 4⟩) (meth := k7m4) (c := k7c4) (by decide +kernel) rfl rfl rfl (by decide +kernel)
set_option maxRecDepth 65536 in
theorem w_c29 : (Jvm.Cond.code ({ cls := "java/lang/StringLatin1", name := "hashCode", desc := "([B)I" } : Jvm.MethodName) jdk_43_method_21_code (1 : Nat) (Option.some Jvm.ClassFile.FieldType.int)).before args0 about1 = true := code_word (m := ⟨28, 1⟩) (meth := k28m1) (c := k28c1) (by decide +kernel) rfl rfl rfl (by decide +kernel)
set_option maxRecDepth 65536 in
theorem w_c30 : (Jvm.Cond.code ({ cls := "jdk/internal/util/ArraysSupport", name := "vectorizedHashCode", desc := "(Ljava/lang/Object;IIII)I" } : Jvm.MethodName) jdk_48_method_4_code (5 : Nat) (Option.some Jvm.ClassFile.FieldType.int)).before args0 about1 = true := code_word (m := ⟨29, 1⟩) (meth := k29m1) (c := k29c1) (by decide +kernel) rfl rfl rfl (by decide +kernel)
set_option maxRecDepth 65536 in
theorem w_c31 : (Jvm.Cond.code ({ cls := "jdk/internal/util/ArraysSupport", name := "signedHashCode", desc := "(I[BII)I" } : Jvm.MethodName) jdk_48_method_5_code (6 : Nat) (Option.some Jvm.ClassFile.FieldType.int)).before args0 about1 = true := code_word (m := ⟨29, 2⟩) (meth := k29m2) (c := k29c2) (by decide +kernel) rfl rfl rfl (by decide +kernel)
set_option maxRecDepth 65536 in
theorem w_c32 : (Jvm.Cond.code ({ cls := "java/util/HashMap", name := "putVal", desc := "(ILjava/lang/Object;Ljava/lang/Object;ZZ)Ljava/lang/Object;" } : Jvm.MethodName) jdk_69_method_16_code (13 : Nat) (Option.some (Jvm.ClassFile.FieldType.object "java/lang/Object"))).before args0 about1 = true := code_word (m := ⟨23, 3⟩) (meth := k23m3) (c := k23c3) (by decide +kernel) rfl rfl rfl (by decide +kernel)
set_option maxRecDepth 65536 in
theorem w_c33 : (Jvm.Cond.code ({ cls := "java/util/HashMap", name := "resize", desc := "()[Ljava/util/HashMap$Node;" } : Jvm.MethodName) jdk_69_method_17_code (14 : Nat) (Option.some (Jvm.ClassFile.FieldType.array (Jvm.ClassFile.FieldType.object "java/util/HashMap$Node")))).before args0 about1 = true := code_word (m := ⟨23, 4⟩) (meth := k23m4) (c := k23c4) (by decide +kernel) rfl rfl rfl (by decide +kernel)
set_option maxRecDepth 65536 in
theorem w_c34 : (Jvm.Cond.code ({ cls := "java/util/LinkedHashMap", name := "newNode", desc := "(ILjava/lang/Object;Ljava/lang/Object;Ljava/util/HashMap$Node;)Ljava/util/HashMap$Node;" } : Jvm.MethodName) jdk_94_method_4_code (6 : Nat) (Option.some (Jvm.ClassFile.FieldType.object "java/util/HashMap$Node"))).before args0 about1 = true := code_word (m := ⟨25, 1⟩) (meth := k25m1) (c := k25c1) (by decide +kernel) rfl rfl rfl (by decide +kernel)
set_option maxRecDepth 65536 in
theorem w_c35 : (Jvm.Cond.code ({ cls := "java/util/LinkedHashMap$Entry", name := "<init>", desc := "(ILjava/lang/Object;Ljava/lang/Object;Ljava/util/HashMap$Node;)V" } : Jvm.MethodName) jdk_83_method_1_code (5 : Nat) (Option.none : Option Jvm.ClassFile.FieldType)).before args0 about1 = true := code_word (m := ⟨32, 0⟩) (meth := k32m0) (c := k32c0) (by decide +kernel) rfl rfl rfl (by decide +kernel)
set_option maxRecDepth 65536 in
theorem w_c36 : (Jvm.Cond.code ({ cls := "java/util/HashMap$Node", name := "<init>", desc := "(ILjava/lang/Object;Ljava/lang/Object;Ljava/util/HashMap$Node;)V" } : Jvm.MethodName) jdk_70_method_1_code (5 : Nat) (Option.none : Option Jvm.ClassFile.FieldType)).before args0 about1 = true := code_word (m := ⟨31, 0⟩) (meth := k31m0) (c := k31c0) (by decide +kernel) rfl rfl rfl (by decide +kernel)
set_option maxRecDepth 65536 in
theorem w_c37 : (Jvm.Cond.code ({ cls := "java/util/LinkedHashMap", name := "linkNodeAtEnd", desc := "(Ljava/util/LinkedHashMap$Entry;)V" } : Jvm.MethodName) jdk_94_method_1_code (3 : Nat) (Option.none : Option Jvm.ClassFile.FieldType)).before args0 about1 = true := code_word (m := ⟨25, 0⟩) (meth := k25m0) (c := k25c0) (by decide +kernel) rfl rfl rfl (by decide +kernel)
set_option maxRecDepth 65536 in
theorem w_c38 : (Jvm.Cond.code ({ cls := "java/util/LinkedHashMap", name := "afterNodeInsertion", desc := "(Z)V" } : Jvm.MethodName) jdk_94_method_9_code (4 : Nat) (Option.none : Option Jvm.ClassFile.FieldType)).before args0 about1 = true := code_word (m := ⟨25, 2⟩) (meth := k25m2) (c := k25c2) (by decide +kernel) rfl rfl rfl (by decide +kernel)
set_option maxRecDepth 65536 in
theorem w_c39 : (Jvm.Cond.code ({ cls := "java/util/LinkedHashMap", name := "removeEldestEntry", desc := "(Ljava/util/Map$Entry;)Z" } : Jvm.MethodName) jdk_94_method_23_code (2 : Nat) (Option.some Jvm.ClassFile.FieldType.boolean)).before args0 about1 = true := code_word (m := ⟨25, 4⟩) (meth := k25m4) (c := k25c4) (by decide +kernel) rfl rfl rfl (by decide +kernel)
set_option maxRecDepth 65536 in
theorem w_c40 : (Jvm.Cond.code ({ cls := "java/util/Collections", name := "unmodifiableMap", desc := "(Ljava/util/Map;)Ljava/util/Map;" } : Jvm.MethodName) jdk_79_method_36_code (1 : Nat) (Option.some (Jvm.ClassFile.FieldType.object "java/util/Map"))).before args0 about1 = true := code_word (m := ⟨33, 1⟩) (meth := k33m1) (c := k33c1) (by decide +kernel) rfl rfl rfl (by decide +kernel)
set_option maxRecDepth 65536 in
theorem w_c41 : (Jvm.Cond.code ({ cls := "java/util/Collections$UnmodifiableMap", name := "<init>", desc := "(Ljava/util/Map;)V" } : Jvm.MethodName) jdk_2500_method_1_code (2 : Nat) (Option.none : Option Jvm.ClassFile.FieldType)).before args0 about1 = true := code_word (m := ⟨34, 0⟩) (meth := k34m0) (c := k34c0) (by decide +kernel) rfl rfl rfl (by decide +kernel)
set_option maxRecDepth 65536 in
theorem w_c42 : (Jvm.Cond.code ({ cls := "com/example/hedgerow/hedgerow/records/Record", name := "<init>", desc := "(Ljava/lang/String;Ljava/lang/String;Ljava/lang/String;Ljava/util/Map;)V" } : Jvm.MethodName) prog_9_method_1_code (5 : Nat) (Option.none : Option Jvm.ClassFile.FieldType)).before args0 about1 = true := code_word (m := ⟨20, 0⟩) (meth := k20m0) (c := k20c0) (by decide +kernel) rfl rfl rfl (by decide +kernel)
set_option maxRecDepth 65536 in
theorem w_c43 : (Jvm.Cond.code ({ cls := "java/lang/Record", name := "<init>", desc := "()V" } : Jvm.MethodName) jdk_30_method_1_code (1 : Nat) (Option.none : Option Jvm.ClassFile.FieldType)).before args0 about1 = true := code_word (m := ⟨19, 0⟩) (meth := k19m0) (c := k19c0) (by decide +kernel) rfl rfl rfl (by decide +kernel)
set_option maxRecDepth 65536 in
theorem w_c44 : (Jvm.Cond.code ({ cls := "com/example/hedgerow/hedgerow/records/Record", name := "fields", desc := "()Ljava/util/Map;" } : Jvm.MethodName) prog_9_method_11_code (1 : Nat) (Option.some (Jvm.ClassFile.FieldType.object "java/util/Map"))).before args0 about1 = true := code_word (m := ⟨20, 6⟩) (meth := k20m6) (c := k20c6) (by decide +kernel) rfl rfl rfl (by decide +kernel)
set_option maxRecDepth 65536 in
theorem w_c45 : (Jvm.Cond.code ({ cls := "com/example/hedgerow/hedgerow/records/Record", name := "withOwner", desc := "(Ljava/lang/String;)Lcom/example/hedgerow/hedgerow/records/Record;" } : Jvm.MethodName) prog_9_method_3_code (2 : Nat) (Option.some (Jvm.ClassFile.FieldType.object "com/example/hedgerow/hedgerow/records/Record"))).before args0 about1 = true := code_word (m := ⟨20, 2⟩) (meth := k20m2) (c := k20c2) (by decide +kernel) rfl rfl rfl (by decide +kernel)
set_option maxRecDepth 65536 in
theorem w_c46 : (Jvm.Cond.code ({ cls := "com/example/hedgerow/hedgerow/records/Record", name := "id", desc := "()Ljava/lang/String;" } : Jvm.MethodName) prog_9_method_8_code (1 : Nat) (Option.some (Jvm.ClassFile.FieldType.object "java/lang/String"))).before args0 about1 = true := code_word (m := ⟨20, 3⟩) (meth := k20m3) (c := k20c3) (by decide +kernel) rfl rfl rfl (by decide +kernel)
set_option maxRecDepth 65536 in
theorem w_c47 : (Jvm.Cond.code ({ cls := "com/example/hedgerow/hedgerow/records/Record", name := "object", desc := "()Ljava/lang/String;" } : Jvm.MethodName) prog_9_method_9_code (1 : Nat) (Option.some (Jvm.ClassFile.FieldType.object "java/lang/String"))).before args0 about1 = true := code_word (m := ⟨20, 4⟩) (meth := k20m4) (c := k20c4) (by decide +kernel) rfl rfl rfl (by decide +kernel)
set_option maxRecDepth 65536 in
theorem w_c48 : (Jvm.Cond.code ({ cls := "com/example/hedgerow/hedgerow/records/Record", name := "owner", desc := "()Ljava/lang/String;" } : Jvm.MethodName) prog_9_method_10_code (1 : Nat) (Option.some (Jvm.ClassFile.FieldType.object "java/lang/String"))).before args0 about1 = true := code_word (m := ⟨20, 5⟩) (meth := k20m5) (c := k20c5) (by decide +kernel) rfl rfl rfl (by decide +kernel)
def codes1 : List Jvm.Cond := [Jvm.Cond.code x code maxLocals ret, Jvm.Cond.code ({ cls := "com/example/hedgerow/hedgerow/records/RecordWithOwnerPinLaw", name := "s2", desc := "(I)Ljava/lang/String;" } : Jvm.MethodName) method_2_code (2 : Nat) (Option.some (Jvm.ClassFile.FieldType.object "java/lang/String")), Jvm.Cond.code ({ cls := "java/lang/String", name := "<init>", desc := "([C)V" } : Jvm.MethodName) jdk_42_method_3_code (2 : Nat) (Option.none : Option Jvm.ClassFile.FieldType), Jvm.Cond.code ({ cls := "java/lang/String", name := "<init>", desc := "([CIILjava/lang/Void;)V" } : Jvm.MethodName) jdk_42_method_149_code (6 : Nat) (Option.none : Option Jvm.ClassFile.FieldType), Jvm.Cond.code ({ cls := "java/lang/Object", name := "<init>", desc := "()V" } : Jvm.MethodName) object_method_1_code (1 : Nat) (Option.none : Option Jvm.ClassFile.FieldType), Jvm.Cond.code ({ cls := "java/lang/StringUTF16", name := "compress", desc := "([CII)[B" } : Jvm.MethodName) jdk_52_method_16_code (6 : Nat) (Option.some (Jvm.ClassFile.FieldType.array Jvm.ClassFile.FieldType.byte)), Jvm.Cond.code ({ cls := "java/lang/StringUTF16", name := "compress", desc := "([CI[BII)I" } : Jvm.MethodName) jdk_52_method_21_code (7 : Nat) (Option.some Jvm.ClassFile.FieldType.int), Jvm.Cond.code ({ cls := "java/lang/StringUTF16", name := "coderFromArrayLen", desc := "([BI)B" } : Jvm.MethodName) jdk_52_method_15_code (2 : Nat) (Option.some Jvm.ClassFile.FieldType.byte), Jvm.Cond.code ({ cls := "java/util/ArrayList", name := "<init>", desc := "()V" } : Jvm.MethodName) jdk_38_method_2_code (1 : Nat) (Option.none : Option Jvm.ClassFile.FieldType), Jvm.Cond.code ({ cls := "java/util/AbstractList", name := "<init>", desc := "()V" } : Jvm.MethodName) jdk_39_method_1_code (1 : Nat) (Option.none : Option Jvm.ClassFile.FieldType), Jvm.Cond.code ({ cls := "java/util/AbstractCollection", name := "<init>", desc := "()V" } : Jvm.MethodName) jdk_22_method_1_code (1 : Nat) (Option.none : Option Jvm.ClassFile.FieldType), Jvm.Cond.code ({ cls := "java/util/ArrayList", name := "add", desc := "(Ljava/lang/Object;)Z" } : Jvm.MethodName) jdk_38_method_25_code (2 : Nat) (Option.some Jvm.ClassFile.FieldType.boolean), Jvm.Cond.code ({ cls := "java/util/ArrayList", name := "add", desc := "(Ljava/lang/Object;[Ljava/lang/Object;I)V" } : Jvm.MethodName) jdk_38_method_24_code (4 : Nat) (Option.none : Option Jvm.ClassFile.FieldType), Jvm.Cond.code ({ cls := "java/util/ArrayList", name := "grow", desc := "()[Ljava/lang/Object;" } : Jvm.MethodName) jdk_38_method_7_code (1 : Nat) (Option.some (Jvm.ClassFile.FieldType.array (Jvm.ClassFile.FieldType.object "java/lang/Object"))), Jvm.Cond.code ({ cls := "java/util/ArrayList", name := "grow", desc := "(I)[Ljava/lang/Object;" } : Jvm.MethodName) jdk_38_method_6_code (4 : Nat) (Option.some (Jvm.ClassFile.FieldType.array (Jvm.ClassFile.FieldType.object "java/lang/Object"))), Jvm.Cond.code ({ cls := "java/lang/Math", name := "max", desc := "(II)I" } : Jvm.MethodName) jdk_29_method_65_code (2 : Nat) (Option.some Jvm.ClassFile.FieldType.int), Jvm.Cond.code ({ cls := "com/example/hedgerow/hedgerow/records/Record", name := "of", desc := "(Ljava/lang/String;Ljava/lang/String;Ljava/lang/String;Ljava/util/List;Ljava/util/List;)Lcom/example/hedgerow/hedgerow/records/Record;" } : Jvm.MethodName) prog_9_method_2_code (7 : Nat) (Option.some (Jvm.ClassFile.FieldType.object "com/example/hedgerow/hedgerow/records/Record")), Jvm.Cond.code ({ cls := "java/util/LinkedHashMap", name := "<init>", desc := "()V" } : Jvm.MethodName) jdk_94_method_16_code (1 : Nat) (Option.none : Option Jvm.ClassFile.FieldType), Jvm.Cond.code ({ cls := "java/util/HashMap", name := "<init>", desc := "()V" } : Jvm.MethodName) jdk_69_method_7_code (1 : Nat) (Option.none : Option Jvm.ClassFile.FieldType), Jvm.Cond.code ({ cls := "java/util/AbstractMap", name := "<init>", desc := "()V" } : Jvm.MethodName) jdk_71_method_1_code (1 : Nat) (Option.none : Option Jvm.ClassFile.FieldType), Jvm.Cond.code ({ cls := "java/util/ArrayList", name := "size", desc := "()I" } : Jvm.MethodName) jdk_38_method_8_code (1 : Nat) (Option.some Jvm.ClassFile.FieldType.int), Jvm.Cond.code ({ cls := "java/util/ArrayList", name := "get", desc := "(I)Ljava/lang/Object;" } : Jvm.MethodName) jdk_38_method_20_code (2 : Nat) (Option.some (Jvm.ClassFile.FieldType.object "java/lang/Object")), Jvm.Cond.code ({ cls := "java/util/Objects", name := "checkIndex", desc := "(II)I" } : Jvm.MethodName) jdk_31_method_17_code (2 : Nat) (Option.some Jvm.ClassFile.FieldType.int), Jvm.Cond.code ({ cls := "jdk/internal/util/Preconditions", name := "checkIndex", desc := "(IILjava/util/function/BiFunction;)I" } : Jvm.MethodName) jdk_41_method_11_code (3 : Nat) (Option.some Jvm.ClassFile.FieldType.int), Jvm.Cond.code ({ cls := "java/util/ArrayList", name := "elementData", desc := "(I)Ljava/lang/Object;" } : Jvm.MethodName) jdk_38_method_18_code (2 : Nat) (Option.some (Jvm.ClassFile.FieldType.object "java/lang/Object")), Jvm.Cond.code ({ cls := "java/util/HashMap", name := "put", desc := "(Ljava/lang/Object;Ljava/lang/Object;)Ljava/lang/Object;" } : Jvm.MethodName) jdk_69_method_15_code (3 : Nat) (Option.some (Jvm.ClassFile.FieldType.object "java/lang/Object")), Jvm.Cond.code ({ cls := "java/util/HashMap", name := "hash", desc := "(Ljava/lang/Object;)I" } : Jvm.MethodName) jdk_69_method_1_code (2 : Nat) (Option.some Jvm.ClassFile.FieldType.int), Jvm.Cond.code ({ cls := "java/lang/String", name := "hashCode", desc := "()I" } : Jvm.MethodName) jdk_42_method_78_code (2 : Nat) (Option.some Jvm.ClassFile.FieldType.int), Jvm.Cond.code ({ cls := "java/lang/String", name := "isLatin1", desc := "()Z" } : Jvm.MethodName) jdk_42_method_154_code (1 : Nat) (Option.some Jvm.ClassFile.FieldType.boolean), Jvm.Cond.code ({ cls := "java/lang/StringLatin1", name := "hashCode", desc := "([B)I" } : Jvm.MethodName) jdk_43_method_21_code (1 : Nat) (Option.some Jvm.ClassFile.FieldType.int), Jvm.Cond.code ({ cls := "jdk/internal/util/ArraysSupport", name := "vectorizedHashCode", desc := "(Ljava/lang/Object;IIII)I" } : Jvm.MethodName) jdk_48_method_4_code (5 : Nat) (Option.some Jvm.ClassFile.FieldType.int), Jvm.Cond.code ({ cls := "jdk/internal/util/ArraysSupport", name := "signedHashCode", desc := "(I[BII)I" } : Jvm.MethodName) jdk_48_method_5_code (6 : Nat) (Option.some Jvm.ClassFile.FieldType.int), Jvm.Cond.code ({ cls := "java/util/HashMap", name := "putVal", desc := "(ILjava/lang/Object;Ljava/lang/Object;ZZ)Ljava/lang/Object;" } : Jvm.MethodName) jdk_69_method_16_code (13 : Nat) (Option.some (Jvm.ClassFile.FieldType.object "java/lang/Object")), Jvm.Cond.code ({ cls := "java/util/HashMap", name := "resize", desc := "()[Ljava/util/HashMap$Node;" } : Jvm.MethodName) jdk_69_method_17_code (14 : Nat) (Option.some (Jvm.ClassFile.FieldType.array (Jvm.ClassFile.FieldType.object "java/util/HashMap$Node"))), Jvm.Cond.code ({ cls := "java/util/LinkedHashMap", name := "newNode", desc := "(ILjava/lang/Object;Ljava/lang/Object;Ljava/util/HashMap$Node;)Ljava/util/HashMap$Node;" } : Jvm.MethodName) jdk_94_method_4_code (6 : Nat) (Option.some (Jvm.ClassFile.FieldType.object "java/util/HashMap$Node")), Jvm.Cond.code ({ cls := "java/util/LinkedHashMap$Entry", name := "<init>", desc := "(ILjava/lang/Object;Ljava/lang/Object;Ljava/util/HashMap$Node;)V" } : Jvm.MethodName) jdk_83_method_1_code (5 : Nat) (Option.none : Option Jvm.ClassFile.FieldType), Jvm.Cond.code ({ cls := "java/util/HashMap$Node", name := "<init>", desc := "(ILjava/lang/Object;Ljava/lang/Object;Ljava/util/HashMap$Node;)V" } : Jvm.MethodName) jdk_70_method_1_code (5 : Nat) (Option.none : Option Jvm.ClassFile.FieldType), Jvm.Cond.code ({ cls := "java/util/LinkedHashMap", name := "linkNodeAtEnd", desc := "(Ljava/util/LinkedHashMap$Entry;)V" } : Jvm.MethodName) jdk_94_method_1_code (3 : Nat) (Option.none : Option Jvm.ClassFile.FieldType), Jvm.Cond.code ({ cls := "java/util/LinkedHashMap", name := "afterNodeInsertion", desc := "(Z)V" } : Jvm.MethodName) jdk_94_method_9_code (4 : Nat) (Option.none : Option Jvm.ClassFile.FieldType), Jvm.Cond.code ({ cls := "java/util/LinkedHashMap", name := "removeEldestEntry", desc := "(Ljava/util/Map$Entry;)Z" } : Jvm.MethodName) jdk_94_method_23_code (2 : Nat) (Option.some Jvm.ClassFile.FieldType.boolean), Jvm.Cond.code ({ cls := "java/util/Collections", name := "unmodifiableMap", desc := "(Ljava/util/Map;)Ljava/util/Map;" } : Jvm.MethodName) jdk_79_method_36_code (1 : Nat) (Option.some (Jvm.ClassFile.FieldType.object "java/util/Map")), Jvm.Cond.code ({ cls := "java/util/Collections$UnmodifiableMap", name := "<init>", desc := "(Ljava/util/Map;)V" } : Jvm.MethodName) jdk_2500_method_1_code (2 : Nat) (Option.none : Option Jvm.ClassFile.FieldType), Jvm.Cond.code ({ cls := "com/example/hedgerow/hedgerow/records/Record", name := "<init>", desc := "(Ljava/lang/String;Ljava/lang/String;Ljava/lang/String;Ljava/util/Map;)V" } : Jvm.MethodName) prog_9_method_1_code (5 : Nat) (Option.none : Option Jvm.ClassFile.FieldType), Jvm.Cond.code ({ cls := "java/lang/Record", name := "<init>", desc := "()V" } : Jvm.MethodName) jdk_30_method_1_code (1 : Nat) (Option.none : Option Jvm.ClassFile.FieldType), Jvm.Cond.code ({ cls := "com/example/hedgerow/hedgerow/records/Record", name := "fields", desc := "()Ljava/util/Map;" } : Jvm.MethodName) prog_9_method_11_code (1 : Nat) (Option.some (Jvm.ClassFile.FieldType.object "java/util/Map")), Jvm.Cond.code ({ cls := "com/example/hedgerow/hedgerow/records/Record", name := "withOwner", desc := "(Ljava/lang/String;)Lcom/example/hedgerow/hedgerow/records/Record;" } : Jvm.MethodName) prog_9_method_3_code (2 : Nat) (Option.some (Jvm.ClassFile.FieldType.object "com/example/hedgerow/hedgerow/records/Record")), Jvm.Cond.code ({ cls := "com/example/hedgerow/hedgerow/records/Record", name := "id", desc := "()Ljava/lang/String;" } : Jvm.MethodName) prog_9_method_8_code (1 : Nat) (Option.some (Jvm.ClassFile.FieldType.object "java/lang/String")), Jvm.Cond.code ({ cls := "com/example/hedgerow/hedgerow/records/Record", name := "object", desc := "()Ljava/lang/String;" } : Jvm.MethodName) prog_9_method_9_code (1 : Nat) (Option.some (Jvm.ClassFile.FieldType.object "java/lang/String")), Jvm.Cond.code ({ cls := "com/example/hedgerow/hedgerow/records/Record", name := "owner", desc := "()Ljava/lang/String;" } : Jvm.MethodName) prog_9_method_10_code (1 : Nat) (Option.some (Jvm.ClassFile.FieldType.object "java/lang/String"))]
set_option maxRecDepth 65536 in
theorem codes_eq : words1.filter isCode = codes1 := rfl
theorem w_codes : ∀ c ∈ words1.filter isCode, c.before args0 about1 = true := by
  rw [codes_eq]
  intro c hc
  simp only [codes1, List.mem_cons, List.not_mem_nil, or_false] at hc
  rcases hc with rfl | rfl | rfl | rfl | rfl | rfl | rfl | rfl | rfl | rfl | rfl | rfl | rfl | rfl | rfl | rfl | rfl | rfl | rfl | rfl | rfl | rfl | rfl | rfl | rfl | rfl | rfl | rfl | rfl | rfl | rfl | rfl | rfl | rfl | rfl | rfl | rfl | rfl | rfl | rfl | rfl | rfl | rfl | rfl | rfl | rfl | rfl | rfl | rfl
  · exact w_c0
  · exact w_c1
  · exact w_c2
  · exact w_c3
  · exact w_c4
  · exact w_c5
  · exact w_c6
  · exact w_c7
  · exact w_c8
  · exact w_c9
  · exact w_c10
  · exact w_c11
  · exact w_c12
  · exact w_c13
  · exact w_c14
  · exact w_c15
  · exact w_c16
  · exact w_c17
  · exact w_c18
  · exact w_c19
  · exact w_c20
  · exact w_c21
  · exact w_c22
  · exact w_c23
  · exact w_c24
  · exact w_c25
  · exact w_c26
  · exact w_c27
  · exact w_c28
  · exact w_c29
  · exact w_c30
  · exact w_c31
  · exact w_c32
  · exact w_c33
  · exact w_c34
  · exact w_c35
  · exact w_c36
  · exact w_c37
  · exact w_c38
  · exact w_c39
  · exact w_c40
  · exact w_c41
  · exact w_c42
  · exact w_c43
  · exact w_c44
  · exact w_c45
  · exact w_c46
  · exact w_c47
  · exact w_c48
set_option maxRecDepth 65536 in
theorem w_t1 : (words1.take 24).all (fun c => isCode c || c.before args0 about1) = true := by decide +kernel
set_option maxRecDepth 65536 in
theorem w_t2 : ((words1.drop 24).take 24).all (fun c => isCode c || c.before args0 about1) = true := by decide +kernel
set_option maxRecDepth 65536 in
theorem w_t3 : (((words1.drop 24).drop 24).take 24).all (fun c => isCode c || c.before args0 about1) = true := by decide +kernel
set_option maxRecDepth 65536 in
theorem w_t4 : ((((words1.drop 24).drop 24).drop 24).take 24).all (fun c => isCode c || c.before args0 about1) = true := by decide +kernel
set_option maxRecDepth 65536 in
theorem w_t5 : (((((words1.drop 24).drop 24).drop 24).drop 24).take 24).all (fun c => isCode c || c.before args0 about1) = true := by decide +kernel
set_option maxRecDepth 65536 in
theorem w_t6 : ((((((words1.drop 24).drop 24).drop 24).drop 24).drop 24).take 24).all (fun c => isCode c || c.before args0 about1) = true := by decide +kernel
set_option maxRecDepth 65536 in
theorem w_t7 : (((((((words1.drop 24).drop 24).drop 24).drop 24).drop 24).drop 24).take 24).all (fun c => isCode c || c.before args0 about1) = true := by decide +kernel
set_option maxRecDepth 65536 in
theorem w_t8 : ((((((((words1.drop 24).drop 24).drop 24).drop 24).drop 24).drop 24).drop 24).take 24).all (fun c => isCode c || c.before args0 about1) = true := by decide +kernel
set_option maxRecDepth 65536 in
theorem w_t9 : (((((((((words1.drop 24).drop 24).drop 24).drop 24).drop 24).drop 24).drop 24).drop 24).take 24).all (fun c => isCode c || c.before args0 about1) = true := by decide +kernel
set_option maxRecDepth 65536 in
theorem w_t10 : ((((((((((words1.drop 24).drop 24).drop 24).drop 24).drop 24).drop 24).drop 24).drop 24).drop 24).take 24).all (fun c => isCode c || c.before args0 about1) = true := by decide +kernel
set_option maxRecDepth 65536 in
theorem w_t11 : (((((((((((words1.drop 24).drop 24).drop 24).drop 24).drop 24).drop 24).drop 24).drop 24).drop 24).drop 24).take 24).all (fun c => isCode c || c.before args0 about1) = true := by decide +kernel
set_option maxRecDepth 65536 in
theorem w_t12 : ((((((((((((words1.drop 24).drop 24).drop 24).drop 24).drop 24).drop 24).drop 24).drop 24).drop 24).drop 24).drop 24).take 24).all (fun c => isCode c || c.before args0 about1) = true := by decide +kernel
set_option maxRecDepth 65536 in
theorem w_t13 : (((((((((((((words1.drop 24).drop 24).drop 24).drop 24).drop 24).drop 24).drop 24).drop 24).drop 24).drop 24).drop 24).drop 24).take 24).all (fun c => isCode c || c.before args0 about1) = true := by decide +kernel
set_option maxRecDepth 65536 in
theorem w_t14 : (((((((((((((words1.drop 24).drop 24).drop 24).drop 24).drop 24).drop 24).drop 24).drop 24).drop 24).drop 24).drop 24).drop 24).drop 24).all (fun c => isCode c || c.before args0 about1) = true := by decide +kernel
theorem w_tables : (allAtoms (Jvm.Cond.code x code maxLocals ret :: tables_1)).before args0 about1 = true := by
  rw [allAtoms_all]
  show words1.all (fun c => c.before args0 about1) = true
  refine all_split ?_ w_codes
  rw [← List.take_append_drop 24 words1, List.all_append, w_t1, ← List.take_append_drop 24 (words1.drop 24), List.all_append, w_t2, ← List.take_append_drop 24 ((words1.drop 24).drop 24), List.all_append, w_t3, ← List.take_append_drop 24 (((words1.drop 24).drop 24).drop 24), List.all_append, w_t4, ← List.take_append_drop 24 ((((words1.drop 24).drop 24).drop 24).drop 24), List.all_append, w_t5, ← List.take_append_drop 24 (((((words1.drop 24).drop 24).drop 24).drop 24).drop 24), List.all_append, w_t6, ← List.take_append_drop 24 ((((((words1.drop 24).drop 24).drop 24).drop 24).drop 24).drop 24), List.all_append, w_t7, ← List.take_append_drop 24 (((((((words1.drop 24).drop 24).drop 24).drop 24).drop 24).drop 24).drop 24), List.all_append, w_t8, ← List.take_append_drop 24 ((((((((words1.drop 24).drop 24).drop 24).drop 24).drop 24).drop 24).drop 24).drop 24), List.all_append, w_t9, ← List.take_append_drop 24 (((((((((words1.drop 24).drop 24).drop 24).drop 24).drop 24).drop 24).drop 24).drop 24).drop 24), List.all_append, w_t10, ← List.take_append_drop 24 ((((((((((words1.drop 24).drop 24).drop 24).drop 24).drop 24).drop 24).drop 24).drop 24).drop 24).drop 24), List.all_append, w_t11, ← List.take_append_drop 24 (((((((((((words1.drop 24).drop 24).drop 24).drop 24).drop 24).drop 24).drop 24).drop 24).drop 24).drop 24).drop 24), List.all_append, w_t12, ← List.take_append_drop 24 ((((((((((((words1.drop 24).drop 24).drop 24).drop 24).drop 24).drop 24).drop 24).drop 24).drop 24).drop 24).drop 24).drop 24), List.all_append, w_t13, w_t14]
  rfl
set_option maxRecDepth 65536 in
theorem w_rest : rest_1_c.before args0 about1 = true := by decide +kernel
set_option maxRecDepth 65536 in
theorem w_case : (Jvm.Cond.and given_1 narrow_1).before args0 about1 = true := by decide +kernel
theorem w_applies : (headSpec (Jvm.Cond.code x code maxLocals ret :: tables_1) room_1).applies x e0.platform about1 = true :=
  (Spec.applies_iff w_frames).mpr ⟨w_running, w_runnable, w_alone, w_named, w_hears, w_ripe, w_room, w_tables⟩
theorem atStart : AtStart classFile x code maxLocals ret World_1 tables_1 room_1 Calls_1 rest_1 Pre_1 launch0 p0 e0 about1 theMethod args0 below0 :=
  ⟨lists_1, trivial, launch0.admits_env _ _ _, launch0.least_env, fairChoices_fair.cas, fairChoices_fair.clock, w_frames, w_args, w_heap, w_applies, ⟨⟨25, k25, 3, by decide +kernel, rfl, rfl, _, rfl, rfl⟩, ⟨⟨34, k34, 4, by decide +kernel, rfl, rfl, _, rfl, rfl⟩, trivial⟩⟩, w_rest, w_case⟩
end start1
theorem witness_1 : WitnessClaimed_1 := ⟨start1.p0, start1.e0, start1.about1, start1.theMethod, start1.args0, start1.below0, start1.atStart⟩
end Jvm.Pilot.@@N@@
