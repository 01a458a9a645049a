import JvmDerived
import JvmDerived.Pilot.@@N@@Statement
import JvmDerived.Pilot.@@N@@Code
set_option linter.unusedVariables false
set_option linter.unusedSimpArgs false

/-! An interface call whose reference lands in another class's method (Object.toString by way of Collection), without the word that this method is public: the link word's own access test serves -/
namespace Jvm.OwnKit
open Sem ClassFile Op Lib Jvm.Stand Jvm.Free Jvm.LawKit Jvm.RoadKit
section IfUp
variable {p : Program} {l : Launch} {e : Env} {R : Room} {s : State} {m : MethodId} {args : Array Value} {below : List Frame} {meth : Method} {c : Code} {T : State} {locs : List Loc} {cells slots : Nat}
end IfUp
end Jvm.OwnKit
namespace Jvm.OwnKit
open Sem ClassFile Op Lib Jvm.Stand Jvm.Free Jvm.LawKit Jvm.RoadKit
/-! ## What is owed from a state on, and where a walk stands: one bundle a walk -/
def Go (tb : Tables) (e : Env) (below : List Frame) (P : Outcome → State → Prop) (A : State) : Prop := ∃ s₂ o, Steps tb e below A s₂ ∧ s₂.status = .running ∧ Ended s₂ below o ∧ P o s₂
theorem Go.go {tb : Tables} {e : Env} {below : List Frame} {P : Outcome → State → Prop} {A B : State} (st : ∀ t, Steps tb e below B t → Steps tb e below A t) (k : Go tb e below P B) : Go tb e below P A := by
  obtain ⟨s2, o, h, r⟩ := k
  exact ⟨s2, o, st _ h, r⟩
theorem Go.cast {tb : Tables} {e : Env} {below : List Frame} {P : Outcome → State → Prop} {T : State} {g g' : JFrame} (q : g = g') (k : Go tb e below P (T.setTop g')) : Go tb e below P (T.setTop g) := q ▸ k
def QQ (h0 : Heap) (n0 : Nat) (ws : List Addr) (Po : Option Value → Heap → Vm → Prop) (v : Option Value) (h : Heap) (vm : Vm) (L : List Loc) : Prop := Fr n0 L ∧ Keep h0 h ws ∧ Po v h vm
def PO (s : State) (R : Room) (h0 : Heap) (n0 : Nat) (ws : List Addr) (Z : State) (EL : List (String × Nat)) (Po : Option Value → Heap → Vm → Prop) (o : Outcome) (t : State) : Prop := ∃ v L, o = .returned v ∧ QQ h0 n0 ws Po v t.heap t.vm L ∧ CHr Z EL s.vm s.heap t.vm t.heap ∧ ReturnedEndW s o t L R.cells R.slots
def KnP (kn : Bool) (vm : Vm) (below : List Frame) : Prop := kn = true → vm.MethodsKnown ∧ vm.FramesKnown below
theorem KnP.alike {kn : Bool} {vm vm' : Vm} {below : List Frame} (h : KnP kn vm below) (ha : vm.Alike vm') : KnP kn vm' below := fun q => ⟨Vm.MethodsKnown.alikeC ha (h q).1, Vm.FramesKnown.alikeC ha (h q).2⟩
def Met (l : Launch) (y : MethodName) (bytes : ByteArray) (maxL : Nat) (ret : Option FieldType) (wl : List Cond) (rm : Room) (Z : State) (as' : Array Value) (h0 : Heap) (n0 : Nat) (ws : List Addr) (EL : List (String × Nat)) (kn : Bool) (sf : List Addr) (Po : Option Value → Heap → Vm → Prop) : Prop :=
  MetFree l y (head1 (Cond.code y bytes maxL ret :: wl) rm) (fun a U => a = as' ∧ Z.Warmed39 U.vm ∧ U.heap = h0 ∧ CHv Z EL U.vm h0 ∧ ∀ x ∈ sf, Safe Z EL U.vm h0 x) (fun _ _ bl s _ => KnP kn s.vm bl) (fun _ U o U' => ∃ v L, o = .returned v ∧ QQ h0 n0 ws Po v U'.heap U'.vm L ∧ CHr Z EL U.vm U.heap U'.vm U'.heap ∧ ReturnedEndW U o U' L rm.cells rm.slots)
def Here (p : Program) (l : Launch) (e : Env) (R : Room) (s : State) (m : MethodId) (args : Array Value) (below : List Frame) (meth : Method) (c : Code) (Z : State) (bytes : ByteArray) (maxL : Nat) (ret : Option FieldType) (own nm : String) (h0 : Heap) (n0 : Nat) (ws : List Addr) (EL : List (String × Nat)) (kn : Bool)
    (T : State) (h : Heap) (vm0 : Vm) (cells slots : Nat) : Prop :=
  ∃ k0 locs, Stand p l e R (s.setVm vm0) m args below meth c T locs cells slots ∧ Fr n0 locs ∧ T.heap = h ∧ Old Z n0 h ∧ Keep h0 h ws ∧ p.tables.exec = Jvm.exec ∧ c.code = bytes ∧ c.maxLocals = maxL ∧ meth.sig.returnType = ret ∧ meth.locks = false ∧ vm0.findClass own = some m.cls ∧ meth.name = nm ∧ Z.Warmed39 vm0 ∧ s.Since vm0 k0 ∧ k0 ≤ h.size ∧ CHr Z EL s.vm h0 vm0 h ∧ (∃ a1, EW Z a1 EL) ∧ KnP kn vm0 below ∧ s.heap = h0
section Own
variable {p : Program} {l : Launch} {e : Env} {R : Room} {s : State} {m : MethodId} {args : Array Value} {below : List Frame} {meth : Method} {c : Code} {T : State} {locs : List Loc} {cells slots : Nat} {Z : State} {a0 : Array Value} {h : Heap}
theorem own_nfZ {C : String} {x y z : MethodName} (w : (Cond.selects C x z).before a0 Z = true) (hc : z.cls = y.cls) : ∀ s' : State, Z.Warmed39 s'.vm → NotFace s' y := fun s' hz r0 hn => by
  have w' : (Cond.selects C x z).before #[] s' = true := mvT hz w
  obtain ⟨c2, r2, m2, q1, q2, q3, q4, mk, k1, k2⟩ := Cond.selects_spec w'
  have e1 := findClass_of_methodNamed q3
  have e2 := findClass_of_methodNamed hn
  rw [hc] at e1
  have e3 : m2.cls = r0.cls := Option.some.inj (e1.symm.trans e2)
  exact ⟨mk, e3 ▸ k1, k2⟩
theorem own_decl {y : MethodName} {bytes : ByteArray} {maxL : Nat} {ret : Option FieldType} (w : (Cond.instanceMethod y).before a0 Z = true) (wc : (Cond.code y bytes maxL ret).before a0 Z = true) : (Cond.declares y).before a0 Z = true := by
  obtain ⟨m, meth, hn, hm, hst, -⟩ := Cond.instanceMethod_spec w
  obtain ⟨m2, cM, q1, -, -, -, -, -, -, hsig⟩ := Cond.code_spec hn wc
  cases hm.symm.trans q1
  simp [Cond.before, Cond.holds, Cond.value, hn, hm, hst, hsig]
theorem own_same {y : MethodName} (w : (Cond.instanceMethod y).before a0 Z = true) (nf : ∀ s' : State, Z.Warmed39 s'.vm → NotFace s' y) (hy : y.cls ≠ "java/lang/invoke/MethodHandle" ∧ y.cls ≠ "java/lang/invoke/VarHandle") : (Cond.sameMethod y.cls y.cls y.name y.desc).before a0 Z = true := by
  obtain ⟨m, meth, hn, hm, -⟩ := Cond.instanceMethod_spec w
  have f := State.methodFound?_of_named hn hy
  obtain ⟨kr, k1, k2⟩ := nf Z (State.Warmed39.refl Z) m hn
  have c := findClass_of_methodNamed hn
  have hn' : Z.methodNamed? ⟨y.cls, y.name, y.desc⟩ = some m := hn
  simp [Cond.before, Cond.holds, Cond.value, c, f, hn', k1, k2]
end Own
section Kit
variable {p : Program} {l : Launch} {e : Env} {R : Room} {s : State} {m : MethodId} {args : Array Value} {below : List Frame} {meth : Method} {c : Code} {Z : State} {bytes : ByteArray} {maxL : Nat} {ret : Option FieldType} {own nm : String} {h0 : Heap} {n0 : Nat} {ws : List Addr} {T : State} {h : Heap} {cells slots : Nat} {P : Outcome → State → Prop} {pc : Nat} (pc' : Nat) {Ls : Array Slot} {st rest : List Value} {a0 : Array Value} {EL : List (String × Nat)} {kn : Bool} {vm0 : Vm} {sf : List Addr}
theorem met_intro {y : MethodName} {wl : List Cond} {as' : Array Value} {Po : Option Value → Heap → Vm → Prop} (hpn : plainFor y = true) (hc0 : y.cls = own) (hn0 : y.name = nm) (O : Old Z n0 h0) (hew : EW Z a0 EL)
    (body : ∀ p e s m below meth c s₁, Here p l e R s m as' below meth c Z bytes maxL ret own nm h0 n0 ws EL kn s₁ h0 s.vm 0 0 → (∀ x ∈ sf, Safe Z EL s.vm h0 x) → Go p.tables e below (PO s R h0 n0 ws Z EL Po) (s₁.setTop (entryFrame m as' maxL))) : Met l y bytes maxL ret wl R Z as' h0 n0 ws EL kn sf Po := by
  subst hc0 hn0
  refine MetFree.of_bodySF hpn hisR ?_
  intro p e s m args below meth c s₁ Bd hml0 hP hK
  obtain ⟨rfl, hZ, hh, hCH, hsf⟩ := hP
  have e0 : s₁.heap = h0 := by rw [← hh, Bd.state]; rfl
  exact body p e s m below meth c s₁ ⟨h0.size, [], Stand.of_body Bd, Fr.nil n0, e0, O, Keep.refl h0 ws, Bd.exec, Bd.bytes, hml0, Bd.returns, BodyLoose.notSynchronized Bd, findClass_of_methodNamed Bd.named, (name_of_methodNamed Bd.named Bd.method).1, hZ, (State.WarmedH.refl s).since _, Nat.le_refl _, CHr.refl hCH, ⟨a0, hew⟩, hK, hh⟩ hsf
theorem Here.old (X : Here p l e R s m args below meth c Z bytes maxL ret own nm h0 n0 ws EL kn T h vm0 cells slots) : Old Z n0 h := by obtain ⟨_, _, _, _, _, q, _⟩ := X; exact q
theorem Here.keep (X : Here p l e R s m args below meth c Z bytes maxL ret own nm h0 n0 ws EL kn T h vm0 cells slots) : Keep h0 h ws := by obtain ⟨_, _, _, _, _, _, q, _⟩ := X; exact q
theorem Here.zv (X : Here p l e R s m args below meth c Z bytes maxL ret own nm h0 n0 ws EL kn T h vm0 cells slots) : Z.Warmed39 vm0 := by obtain ⟨_, _, _, _, _, _, _, _, _, _, _, _, _, _, q, _⟩ := X; exact q
theorem Here.al (X : Here p l e R s m args below meth c Z bytes maxL ret own nm h0 n0 ws EL kn T h vm0 cells slots) : Z.vm.Alike vm0 := X.zv.alike
theorem Here.n0le (X : Here p l e R s m args below meth c Z bytes maxL ret own nm h0 n0 ws EL kn T h vm0 cells slots) : n0 ≤ h.size := by have q := X.old; rw [← q.1]; exact q.2.1
theorem oI {k : Fin 4} {v : Int32} (X : Here p l e R s m args below meth c Z bytes maxL ret own nm h0 n0 ws EL kn T h vm0 cells slots) (hd : decode bytes pc = .ok (.iload_n k, 1)) (hp : pc + 1 = pc') (hl : Ls[k.val]? = some (.val (.int v)))
    (k : Go p.tables e below P (T.setTop (mkF m pc' Ls (.int v :: st)))) : Go p.tables e below P (T.setTop (mkF m pc Ls st)) := by
  obtain ⟨k0, locs, Y, N, eT, O, K, hx, hby, hml, hret, hlk, hown, hnm, hZ, hS, hk, hC, hEW, hKn, hsh⟩ := X
  subst hp
  exact Go.go (fun t q => XS.iloadN Y.here hx rfl (hb hby hd) hl q) k
theorem oi {k : Nat} {v : Int32} (X : Here p l e R s m args below meth c Z bytes maxL ret own nm h0 n0 ws EL kn T h vm0 cells slots) (hd : decode bytes pc = .ok (.iload k, 2)) (hp : pc + 2 = pc') (hl : Ls[k]? = some (.val (.int v)))
    (k : Go p.tables e below P (T.setTop (mkF m pc' Ls (.int v :: st)))) : Go p.tables e below P (T.setTop (mkF m pc Ls st)) := by
  obtain ⟨k0, locs, Y, N, eT, O, K, hx, hby, hml, hret, hlk, hown, hnm, hZ, hS, hk, hC, hEW, hKn, hsh⟩ := X
  subst hp
  exact Go.go (fun t q => XS.iload Y.here hx rfl (hb hby hd) hl q) k
theorem o_aloadN {k : Fin 4} {v : Value} (X : Here p l e R s m args below meth c Z bytes maxL ret own nm h0 n0 ws EL kn T h vm0 cells slots) (hd : decode bytes pc = .ok (.aload_n k, 1)) (hp : pc + 1 = pc') (hl : Ls[k.val]? = some (.val v)) (hv : v.isRef = true)
    (k : Go p.tables e below P (T.setTop (mkF m pc' Ls (v :: st)))) : Go p.tables e below P (T.setTop (mkF m pc Ls st)) := by
  obtain ⟨k0, locs, Y, N, eT, O, K, hx, hby, hml, hret, hlk, hown, hnm, hZ, hS, hk, hC, hEW, hKn, hsh⟩ := X
  subst hp
  exact Go.go (fun t q => XS.aloadN Y.here hx rfl (hb hby hd) hl hv q) k
theorem o_aload {k : Nat} {v : Value} (X : Here p l e R s m args below meth c Z bytes maxL ret own nm h0 n0 ws EL kn T h vm0 cells slots) (hd : decode bytes pc = .ok (.aload k, 2)) (hp : pc + 2 = pc') (hl : Ls[k]? = some (.val v)) (hv : v.isRef = true)
    (k : Go p.tables e below P (T.setTop (mkF m pc' Ls (v :: st)))) : Go p.tables e below P (T.setTop (mkF m pc Ls st)) := by
  obtain ⟨k0, locs, Y, N, eT, O, K, hx, hby, hml, hret, hlk, hown, hnm, hZ, hS, hk, hC, hEW, hKn, hsh⟩ := X
  subst hp
  exact Go.go (fun t q => XS.aload Y.here hx rfl (hb hby hd) hl hv q) k
theorem oT {k : Fin 4} {x : Int32} {l' : Array Slot} (X : Here p l e R s m args below meth c Z bytes maxL ret own nm h0 n0 ws EL kn T h vm0 cells slots) (hd : decode bytes pc = .ok (.istore_n k, 1)) (hp : pc + 1 = pc') (hl : storeLocals Ls k.val (.int x) = some l')
    (k : Go p.tables e below P (T.setTop (mkF m pc' l' st))) : Go p.tables e below P (T.setTop (mkF m pc Ls (.int x :: st))) := by
  obtain ⟨k0, locs, Y, N, eT, O, K, hx, hby, hml, hret, hlk, hown, hnm, hZ, hS, hk, hC, hEW, hKn, hsh⟩ := X
  subst hp
  exact Go.go (fun t q => XS.istoreN Y.here hx rfl (hb hby hd) rfl hl q) k
theorem oS {k : Nat} {x : Int32} {l' : Array Slot} (X : Here p l e R s m args below meth c Z bytes maxL ret own nm h0 n0 ws EL kn T h vm0 cells slots) (hd : decode bytes pc = .ok (.istore k, 2)) (hp : pc + 2 = pc') (hl : storeLocals Ls k (.int x) = some l')
    (k : Go p.tables e below P (T.setTop (mkF m pc' l' st))) : Go p.tables e below P (T.setTop (mkF m pc Ls (.int x :: st))) := by
  obtain ⟨k0, locs, Y, N, eT, O, K, hx, hby, hml, hret, hlk, hown, hnm, hZ, hS, hk, hC, hEW, hKn, hsh⟩ := X
  subst hp
  exact Go.go (fun t q => XS.istore Y.here hx rfl (hb hby hd) rfl hl q) k
theorem oV {k : Fin 4} {v : Value} {l' : Array Slot} (X : Here p l e R s m args below meth c Z bytes maxL ret own nm h0 n0 ws EL kn T h vm0 cells slots) (hd : decode bytes pc = .ok (.astore_n k, 1)) (hp : pc + 1 = pc') (hv : v.isRef = true) (hl : storeLocals Ls k.val v = some l')
    (k : Go p.tables e below P (T.setTop (mkF m pc' l' st))) : Go p.tables e below P (T.setTop (mkF m pc Ls (v :: st))) := by
  obtain ⟨k0, locs, Y, N, eT, O, K, hx, hby, hml, hret, hlk, hown, hnm, hZ, hS, hk, hC, hEW, hKn, hsh⟩ := X
  subst hp
  exact Go.go (fun t q => XS.astoreN Y.here hx rfl (hb hby hd) rfl hv hl q) k
theorem oU {k : Nat} {v : Value} {l' : Array Slot} (X : Here p l e R s m args below meth c Z bytes maxL ret own nm h0 n0 ws EL kn T h vm0 cells slots) (hd : decode bytes pc = .ok (.astore k, 2)) (hp : pc + 2 = pc') (hv : v.isRef = true) (hl : storeLocals Ls k v = some l')
    (k : Go p.tables e below P (T.setTop (mkF m pc' l' st))) : Go p.tables e below P (T.setTop (mkF m pc Ls (v :: st))) := by
  obtain ⟨k0, locs, Y, N, eT, O, K, hx, hby, hml, hret, hlk, hown, hnm, hZ, hS, hk, hC, hEW, hKn, hsh⟩ := X
  subst hp
  exact Go.go (fun t q => XS.astore Y.here hx rfl (hb hby hd) rfl hv hl q) k
theorem oc {i : Int} {v : Int32} (X : Here p l e R s m args below meth c Z bytes maxL ret own nm h0 n0 ws EL kn T h vm0 cells slots) (hd : decode bytes pc = .ok (.iconst i, 1)) (hp : pc + 1 = pc') (hv : Int32.ofInt i = v)
    (k : Go p.tables e below P (T.setTop (mkF m pc' Ls (.int v :: st)))) : Go p.tables e below P (T.setTop (mkF m pc Ls st)) := by
  obtain ⟨k0, locs, Y, N, eT, O, K, hx, hby, hml, hret, hlk, hown, hnm, hZ, hS, hk, hC, hEW, hKn, hsh⟩ := X
  subst hp hv
  exact Go.go (fun t q => XS.iconst Y.here hx rfl (hb hby hd) q) k
theorem ob {i : Int} {v : Int32} (X : Here p l e R s m args below meth c Z bytes maxL ret own nm h0 n0 ws EL kn T h vm0 cells slots) (hd : decode bytes pc = .ok (.bipush i, 2)) (hp : pc + 2 = pc') (hv : (Int8.ofInt i).toInt32 = v)
    (k : Go p.tables e below P (T.setTop (mkF m pc' Ls (.int v :: st)))) : Go p.tables e below P (T.setTop (mkF m pc Ls st)) := by
  obtain ⟨k0, locs, Y, N, eT, O, K, hx, hby, hml, hret, hlk, hown, hnm, hZ, hS, hk, hC, hEW, hKn, hsh⟩ := X
  subst hp hv
  exact Go.go (fun t q => XS.bipush Y.here hx rfl (hb hby hd) q) k
theorem o_sipush {i : Int} {v : Int32} (X : Here p l e R s m args below meth c Z bytes maxL ret own nm h0 n0 ws EL kn T h vm0 cells slots) (hd : decode bytes pc = .ok (.sipush i, 3)) (hp : pc + 3 = pc') (hv : (Int16.ofInt i).toInt32 = v)
    (k : Go p.tables e below P (T.setTop (mkF m pc' Ls (.int v :: st)))) : Go p.tables e below P (T.setTop (mkF m pc Ls st)) := by
  obtain ⟨k0, locs, Y, N, eT, O, K, hx, hby, hml, hret, hlk, hown, hnm, hZ, hS, hk, hC, hEW, hKn, hsh⟩ := X
  subst hp hv
  exact Go.go (fun t q => XS.sipush Y.here hx rfl (hb hby hd) q) k
theorem o_aconstNull  (X : Here p l e R s m args below meth c Z bytes maxL ret own nm h0 n0 ws EL kn T h vm0 cells slots) (hd : decode bytes pc = .ok (.aconst_null, 1)) (hp : pc + 1 = pc') 
    (k : Go p.tables e below P (T.setTop (mkF m pc' Ls (.null :: st)))) : Go p.tables e below P (T.setTop (mkF m pc Ls st)) := by
  obtain ⟨k0, locs, Y, N, eT, O, K, hx, hby, hml, hret, hlk, hown, hnm, hZ, hS, hk, hC, hEW, hKn, hsh⟩ := X
  subst hp
  exact Go.go (fun t q => XS.aconstNull Y.here hx rfl (hb hby hd)  q) k
theorem o_iadd {x y : Int32} {v : Int32} (X : Here p l e R s m args below meth c Z bytes maxL ret own nm h0 n0 ws EL kn T h vm0 cells slots) (hd : decode bytes pc = .ok (.iadd, 1)) (hp : pc + 1 = pc')  (hv : x + y = v)
    (k : Go p.tables e below P (T.setTop (mkF m pc' Ls (.int v :: st)))) : Go p.tables e below P (T.setTop (mkF m pc Ls (.int y :: .int x :: st))) := by
  obtain ⟨k0, locs, Y, N, eT, O, K, hx, hby, hml, hret, hlk, hown, hnm, hZ, hS, hk, hC, hEW, hKn, hsh⟩ := X
  subst hp hv
  exact Go.go (fun t q => XS.iadd Y.here hx rfl (hb hby hd) rfl q) k
theorem o_isub {x y : Int32} {v : Int32} (X : Here p l e R s m args below meth c Z bytes maxL ret own nm h0 n0 ws EL kn T h vm0 cells slots) (hd : decode bytes pc = .ok (.isub, 1)) (hp : pc + 1 = pc')  (hv : x - y = v)
    (k : Go p.tables e below P (T.setTop (mkF m pc' Ls (.int v :: st)))) : Go p.tables e below P (T.setTop (mkF m pc Ls (.int y :: .int x :: st))) := by
  obtain ⟨k0, locs, Y, N, eT, O, K, hx, hby, hml, hret, hlk, hown, hnm, hZ, hS, hk, hC, hEW, hKn, hsh⟩ := X
  subst hp hv
  exact Go.go (fun t q => XS.isub Y.here hx rfl (hb hby hd) rfl q) k
theorem o_iand {x y : Int32} {v : Int32} (X : Here p l e R s m args below meth c Z bytes maxL ret own nm h0 n0 ws EL kn T h vm0 cells slots) (hd : decode bytes pc = .ok (.iand, 1)) (hp : pc + 1 = pc')  (hv : x &&& y = v)
    (k : Go p.tables e below P (T.setTop (mkF m pc' Ls (.int v :: st)))) : Go p.tables e below P (T.setTop (mkF m pc Ls (.int y :: .int x :: st))) := by
  obtain ⟨k0, locs, Y, N, eT, O, K, hx, hby, hml, hret, hlk, hown, hnm, hZ, hS, hk, hC, hEW, hKn, hsh⟩ := X
  subst hp hv
  exact Go.go (fun t q => XS.iand Y.here hx rfl (hb hby hd) rfl q) k
theorem o_ior {x y : Int32} {v : Int32} (X : Here p l e R s m args below meth c Z bytes maxL ret own nm h0 n0 ws EL kn T h vm0 cells slots) (hd : decode bytes pc = .ok (.ior, 1)) (hp : pc + 1 = pc')  (hv : x ||| y = v)
    (k : Go p.tables e below P (T.setTop (mkF m pc' Ls (.int v :: st)))) : Go p.tables e below P (T.setTop (mkF m pc Ls (.int y :: .int x :: st))) := by
  obtain ⟨k0, locs, Y, N, eT, O, K, hx, hby, hml, hret, hlk, hown, hnm, hZ, hS, hk, hC, hEW, hKn, hsh⟩ := X
  subst hp hv
  exact Go.go (fun t q => XS.ior Y.here hx rfl (hb hby hd) rfl q) k
theorem o_ishl {x y : Int32} {v : Int32} (X : Here p l e R s m args below meth c Z bytes maxL ret own nm h0 n0 ws EL kn T h vm0 cells slots) (hd : decode bytes pc = .ok (.ishl, 1)) (hp : pc + 1 = pc')  (hv : x <<< (y &&& 31) = v)
    (k : Go p.tables e below P (T.setTop (mkF m pc' Ls (.int v :: st)))) : Go p.tables e below P (T.setTop (mkF m pc Ls (.int y :: .int x :: st))) := by
  obtain ⟨k0, locs, Y, N, eT, O, K, hx, hby, hml, hret, hlk, hown, hnm, hZ, hS, hk, hC, hEW, hKn, hsh⟩ := X
  subst hp hv
  exact Go.go (fun t q => XS.ishl Y.here hx rfl (hb hby hd) rfl q) k
theorem o_ishr {x y : Int32} {v : Int32} (X : Here p l e R s m args below meth c Z bytes maxL ret own nm h0 n0 ws EL kn T h vm0 cells slots) (hd : decode bytes pc = .ok (.ishr, 1)) (hp : pc + 1 = pc')  (hv : x >>> (y &&& 31) = v)
    (k : Go p.tables e below P (T.setTop (mkF m pc' Ls (.int v :: st)))) : Go p.tables e below P (T.setTop (mkF m pc Ls (.int y :: .int x :: st))) := by
  obtain ⟨k0, locs, Y, N, eT, O, K, hx, hby, hml, hret, hlk, hown, hnm, hZ, hS, hk, hC, hEW, hKn, hsh⟩ := X
  subst hp hv
  exact Go.go (fun t q => XS.ishr Y.here hx rfl (hb hby hd) rfl q) k
theorem o_iushr {x y : Int32} {v : Int32} (X : Here p l e R s m args below meth c Z bytes maxL ret own nm h0 n0 ws EL kn T h vm0 cells slots) (hd : decode bytes pc = .ok (.iushr, 1)) (hp : pc + 1 = pc')  (hv : (x.toUInt32 >>> (y &&& 31).toUInt32).toInt32 = v)
    (k : Go p.tables e below P (T.setTop (mkF m pc' Ls (.int v :: st)))) : Go p.tables e below P (T.setTop (mkF m pc Ls (.int y :: .int x :: st))) := by
  obtain ⟨k0, locs, Y, N, eT, O, K, hx, hby, hml, hret, hlk, hown, hnm, hZ, hS, hk, hC, hEW, hKn, hsh⟩ := X
  subst hp hv
  exact Go.go (fun t q => XS.iushr Y.here hx rfl (hb hby hd) rfl q) k
theorem o_i2b {x : Int32} {v : Int32} (X : Here p l e R s m args below meth c Z bytes maxL ret own nm h0 n0 ws EL kn T h vm0 cells slots) (hd : decode bytes pc = .ok (.i2b, 1)) (hp : pc + 1 = pc')  (hv : x.toInt8.toInt32 = v)
    (k : Go p.tables e below P (T.setTop (mkF m pc' Ls (.int v :: st)))) : Go p.tables e below P (T.setTop (mkF m pc Ls (.int x :: st))) := by
  obtain ⟨k0, locs, Y, N, eT, O, K, hx, hby, hml, hret, hlk, hown, hnm, hZ, hS, hk, hC, hEW, hKn, hsh⟩ := X
  subst hp hv
  exact Go.go (fun t q => XS.i2b Y.here hx rfl (hb hby hd) rfl q) k
theorem o_i2c {x : Int32} {v : Int32} (X : Here p l e R s m args below meth c Z bytes maxL ret own nm h0 n0 ws EL kn T h vm0 cells slots) (hd : decode bytes pc = .ok (.i2c, 1)) (hp : pc + 1 = pc')  (hv : x.toUInt32.toUInt16.toUInt32.toInt32 = v)
    (k : Go p.tables e below P (T.setTop (mkF m pc' Ls (.int v :: st)))) : Go p.tables e below P (T.setTop (mkF m pc Ls (.int x :: st))) := by
  obtain ⟨k0, locs, Y, N, eT, O, K, hx, hby, hml, hret, hlk, hown, hnm, hZ, hS, hk, hC, hEW, hKn, hsh⟩ := X
  subst hp hv
  exact Go.go (fun t q => XS.i2c Y.here hx rfl (hb hby hd) rfl q) k
theorem oJ (y : Int32) (l' : Array Slot) {k : Nat} {i : Int} {x : Int32} (X : Here p l e R s m args below meth c Z bytes maxL ret own nm h0 n0 ws EL kn T h vm0 cells slots) (hd : decode bytes pc = .ok (.iinc k i, 3)) (hp : pc + 3 = pc') (hl : Ls[k]? = some (.val (.int x))) (hy : x + Int32.ofInt i = y) (hl' : storeLocals Ls k (.int y) = some l')
    (k : Go p.tables e below P (T.setTop (mkF m pc' l' st))) : Go p.tables e below P (T.setTop (mkF m pc Ls st)) := by
  obtain ⟨k0, locs, Y, N, eT, O, K, hx, hby, hml, hret, hlk, hown, hnm, hZ, hS, hk, hC, hEW, hKn, hsh⟩ := X
  subst hp
  exact Go.go (fun t q => XS.iinc Y.here hx rfl (hb hby hd) hl (hy ▸ hl') q) k
theorem oA {k : Fin 4} {a : Addr} (X : Here p l e R s m args below meth c Z bytes maxL ret own nm h0 n0 ws EL kn T h vm0 cells slots) (hd : decode bytes pc = .ok (.aload_n k, 1)) (hp : pc + 1 = pc') (hl : Ls[k.val]? = some (.val (.ref a)))
    (k' : Go p.tables e below P (T.setTop (mkF m pc' Ls (.ref a :: st)))) : Go p.tables e below P (T.setTop (mkF m pc Ls st)) := o_aloadN pc' X hd hp hl rfl k'
theorem oa {k : Nat} {a : Addr} (X : Here p l e R s m args below meth c Z bytes maxL ret own nm h0 n0 ws EL kn T h vm0 cells slots) (hd : decode bytes pc = .ok (.aload k, 2)) (hp : pc + 2 = pc') (hl : Ls[k]? = some (.val (.ref a)))
    (k' : Go p.tables e below P (T.setTop (mkF m pc' Ls (.ref a :: st)))) : Go p.tables e below P (T.setTop (mkF m pc Ls st)) := o_aload pc' X hd hp hl rfl k'
theorem oD {x : Value} (X : Here p l e R s m args below meth c Z bytes maxL ret own nm h0 n0 ws EL kn T h vm0 cells slots) (hd : decode bytes pc = .ok (.dup, 1)) (hp : pc + 1 = pc') (hc : x.category = 1)
    (k : Go p.tables e below P (T.setTop (mkF m pc' Ls (x :: x :: st)))) : Go p.tables e below P (T.setTop (mkF m pc Ls (x :: st))) := by
  obtain ⟨k0, locs, Y, N, eT, O, K, hx, hby, hml, hret, hlk, hown, hnm, hZ, hS, hk, hC, hEW, hKn, hsh⟩ := X
  subst hp
  exact Go.go (fun t q => XS.dup Y.here hx rfl (hb hby hd) rfl hc q) k
theorem o_pop {x : Value} (X : Here p l e R s m args below meth c Z bytes maxL ret own nm h0 n0 ws EL kn T h vm0 cells slots) (hd : decode bytes pc = .ok (.pop, 1)) (hp : pc + 1 = pc') (hc : x.category = 1)
    (k : Go p.tables e below P (T.setTop (mkF m pc' Ls st))) : Go p.tables e below P (T.setTop (mkF m pc Ls (x :: st))) := by
  obtain ⟨k0, locs, Y, N, eT, O, K, hx, hby, hml, hret, hlk, hown, hnm, hZ, hS, hk, hC, hEW, hKn, hsh⟩ := X
  subst hp
  exact Go.go (fun t q => XS.pop Y.here hx rfl (hb hby hd) rfl hc q) k
theorem o_goto  {o : Int} (X : Here p l e R s m args below meth c Z bytes maxL ret own nm h0 n0 ws EL kn T h vm0 cells slots) (hd : decode bytes pc = .ok (.goto o, 3)) (ho : 0 ≤ (pc : Int) + o) (hp : ((pc : Int) + o).toNat = pc') 
    (k : Go p.tables e below P (T.setTop (mkF m pc' Ls st))) : Go p.tables e below P (T.setTop (mkF m pc Ls st)) := by
  obtain ⟨k0, locs, Y, N, eT, O, K, hx, hby, hml, hret, hlk, hown, hnm, hZ, hS, hk, hC, hEW, hKn, hsh⟩ := X
  exact Go.go (fun t q => XS.goto Y.here hx rfl (pc0 := pc) (pc' := pc') rfl (hb hby hd)  ho hp q) k
theorem og  {o : Int} (X : Here p l e R s m args below meth c Z bytes maxL ret own nm h0 n0 ws EL kn T h vm0 cells slots) (hd : decode bytes pc = .ok (.goto o, 3)) (hj : 0 ≤ (pc : Int) + o ∧ ((pc : Int) + o).toNat = pc') 
    (k : Go p.tables e below P (T.setTop (mkF m pc' Ls st))) : Go p.tables e below P (T.setTop (mkF m pc Ls st)) := o_goto pc' X hd hj.1 hj.2  k
theorem o_ifYes {cd : ClassFile.Cond} {x : Int32} {o : Int} (X : Here p l e R s m args below meth c Z bytes maxL ret own nm h0 n0 ws EL kn T h vm0 cells slots) (hd : decode bytes pc = .ok (.ifCond cd o, 3)) (ho : 0 ≤ (pc : Int) + o) (hp : ((pc : Int) + o).toNat = pc') (hc : ifCond.holds cd x = true)
    (k : Go p.tables e below P (T.setTop (mkF m pc' Ls st))) : Go p.tables e below P (T.setTop (mkF m pc Ls (.int x :: st))) := by
  obtain ⟨k0, locs, Y, N, eT, O, K, hx, hby, hml, hret, hlk, hown, hnm, hZ, hS, hk, hC, hEW, hKn, hsh⟩ := X
  exact Go.go (fun t q => XS.ifYes Y.here hx rfl (pc0 := pc) (pc' := pc') rfl (hb hby hd) rfl hc ho hp q) k
theorem oy {cd : ClassFile.Cond} {x : Int32} {o : Int} (X : Here p l e R s m args below meth c Z bytes maxL ret own nm h0 n0 ws EL kn T h vm0 cells slots) (hd : decode bytes pc = .ok (.ifCond cd o, 3)) (hj : 0 ≤ (pc : Int) + o ∧ ((pc : Int) + o).toNat = pc') (hc : ifCond.holds cd x = true)
    (k : Go p.tables e below P (T.setTop (mkF m pc' Ls st))) : Go p.tables e below P (T.setTop (mkF m pc Ls (.int x :: st))) := o_ifYes pc' X hd hj.1 hj.2 hc k
theorem on {cd : ClassFile.Cond} {x : Int32} {o : Int} (X : Here p l e R s m args below meth c Z bytes maxL ret own nm h0 n0 ws EL kn T h vm0 cells slots) (hd : decode bytes pc = .ok (.ifCond cd o, 3)) (hp : pc + 3 = pc') (hc : ifCond.holds cd x = false)
    (k : Go p.tables e below P (T.setTop (mkF m pc' Ls st))) : Go p.tables e below P (T.setTop (mkF m pc Ls (.int x :: st))) := by
  obtain ⟨k0, locs, Y, N, eT, O, K, hx, hby, hml, hret, hlk, hown, hnm, hZ, hS, hk, hC, hEW, hKn, hsh⟩ := X
  subst hp
  exact Go.go (fun t q => XS.ifNo Y.here hx rfl (hb hby hd) rfl hc q) k
theorem o_icmpYes {cd : ClassFile.Cond} {x y : Int32} {o : Int} (X : Here p l e R s m args below meth c Z bytes maxL ret own nm h0 n0 ws EL kn T h vm0 cells slots) (hd : decode bytes pc = .ok (.if_icmp cd o, 3)) (ho : 0 ≤ (pc : Int) + o) (hp : ((pc : Int) + o).toNat = pc') (hc : if_icmp.holds cd x y = true)
    (k : Go p.tables e below P (T.setTop (mkF m pc' Ls st))) : Go p.tables e below P (T.setTop (mkF m pc Ls (.int y :: .int x :: st))) := by
  obtain ⟨k0, locs, Y, N, eT, O, K, hx, hby, hml, hret, hlk, hown, hnm, hZ, hS, hk, hC, hEW, hKn, hsh⟩ := X
  exact Go.go (fun t q => XS.icmpYes Y.here hx rfl (pc0 := pc) (pc' := pc') rfl (hb hby hd) rfl hc ho hp q) k
theorem oY {cd : ClassFile.Cond} {x y : Int32} {o : Int} (X : Here p l e R s m args below meth c Z bytes maxL ret own nm h0 n0 ws EL kn T h vm0 cells slots) (hd : decode bytes pc = .ok (.if_icmp cd o, 3)) (hj : 0 ≤ (pc : Int) + o ∧ ((pc : Int) + o).toNat = pc') (hc : if_icmp.holds cd x y = true)
    (k : Go p.tables e below P (T.setTop (mkF m pc' Ls st))) : Go p.tables e below P (T.setTop (mkF m pc Ls (.int y :: .int x :: st))) := o_icmpYes pc' X hd hj.1 hj.2 hc k
theorem oN {cd : ClassFile.Cond} {x y : Int32} {o : Int} (X : Here p l e R s m args below meth c Z bytes maxL ret own nm h0 n0 ws EL kn T h vm0 cells slots) (hd : decode bytes pc = .ok (.if_icmp cd o, 3)) (hp : pc + 3 = pc') (hc : if_icmp.holds cd x y = false)
    (k : Go p.tables e below P (T.setTop (mkF m pc' Ls st))) : Go p.tables e below P (T.setTop (mkF m pc Ls (.int y :: .int x :: st))) := by
  obtain ⟨k0, locs, Y, N, eT, O, K, hx, hby, hml, hret, hlk, hown, hnm, hZ, hS, hk, hC, hEW, hKn, hsh⟩ := X
  subst hp
  exact Go.go (fun t q => XS.icmpNo Y.here hx rfl (hb hby hd) rfl hc q) k
theorem o_ifnonnullYes {b : Addr} {o : Int} (X : Here p l e R s m args below meth c Z bytes maxL ret own nm h0 n0 ws EL kn T h vm0 cells slots) (hd : decode bytes pc = .ok (.ifnonnull o, 3)) (ho : 0 ≤ (pc : Int) + o) (hp : ((pc : Int) + o).toNat = pc') 
    (k : Go p.tables e below P (T.setTop (mkF m pc' Ls st))) : Go p.tables e below P (T.setTop (mkF m pc Ls (.ref b :: st))) := by
  obtain ⟨k0, locs, Y, N, eT, O, K, hx, hby, hml, hret, hlk, hown, hnm, hZ, hS, hk, hC, hEW, hKn, hsh⟩ := X
  exact Go.go (fun t q => XS.ifnonnullYes Y.here hx rfl (pc0 := pc) (pc' := pc') rfl (hb hby hd) rfl  ho hp q) k
theorem ifnonnullYesJ {b : Addr} {o : Int} (X : Here p l e R s m args below meth c Z bytes maxL ret own nm h0 n0 ws EL kn T h vm0 cells slots) (hd : decode bytes pc = .ok (.ifnonnull o, 3)) (hj : 0 ≤ (pc : Int) + o ∧ ((pc : Int) + o).toNat = pc') 
    (k : Go p.tables e below P (T.setTop (mkF m pc' Ls st))) : Go p.tables e below P (T.setTop (mkF m pc Ls (.ref b :: st))) := o_ifnonnullYes pc' X hd hj.1 hj.2  k
theorem o_acmp {cd : ACond} {x y : Value} {o : Int} {same : Bool} (X : Here p l e R s m args below meth c Z bytes maxL ret own nm h0 n0 ws EL kn T h vm0 cells slots) (hd : decode bytes pc = .ok (.if_acmp cd o, 3)) (h1 : x.isRef = true) (h2 : y.isRef = true) (hq : decide (x = y) = same) (ho : 0 ≤ (pc : Int) + o) (hp : pc' = if acV cd same = true then ((pc : Int) + o).toNat else pc + 3)
    (k : Go p.tables e below P (T.setTop (mkF m pc' Ls st))) : Go p.tables e below P (T.setTop (mkF m pc Ls (y :: x :: st))) := by
  obtain ⟨k0, locs, Y, N, eT, O, K, hx, hby, hml, hret, hlk, hown, hnm, hZ, hS, hk, hC, hEW, hKn, hsh⟩ := X
  exact Go.go (fun t q => RoadKit.acmp (g := mkF m pc Ls (y :: x :: st)) Y hx rfl h1 h2 (pc0 := pc) (pc' := pc') rfl (hb hby hd) rfl hq ho hp q) k
theorem oF {R0 O n d : String} {index : Nat} {a : Addr} {v : Value} (X : Here p l e R s m args below meth c Z bytes maxL ret own nm h0 n0 ws EL kn T h vm0 cells slots) (w : (Cond.fieldLink own index R0 n d).before a0 Z = true) (via : Via Z R0 O n d) (F : Fld Z h a O n d v) (hd : decode bytes pc = .ok (.getfield index, 3)) (hp : pc + 3 = pc')
    (k : ∀ T', Here p l e R s m args below meth c Z bytes maxL ret own nm h0 n0 ws EL kn T' h vm0 cells slots → Go p.tables e below P (T'.setTop (mkF m pc' Ls (v :: st)))) : Go p.tables e below P (T.setTop (mkF m pc Ls (.ref a :: st))) := by
  obtain ⟨k0, locs, Y, N, eT, O, K, hx, hby, hml, hret, hlk, hown, hnm, hZ, hS, hk, hC, hEW, hKn, hsh⟩ := X
  subst hp
  obtain ⟨T', Y', e', st'⟩ := RoadKit.getF Y hx hZ hown (host := "") (Or.inl w) via eT F (g := mkF m pc Ls (.ref a :: st)) rfl rfl (hb hby hd)
  exact Go.go st' (k T' ⟨k0, locs, Y', N, e', O, K, hx, hby, hml, hret, hlk, hown, hnm, hZ, hS, hk, hC, hEW, hKn, hsh⟩)
theorem oG {R0 O n d : String} {index : Nat} {v : Value} (X : Here p l e R s m args below meth c Z bytes maxL ret own nm h0 n0 ws EL kn T h vm0 cells slots) (w : (Cond.fieldLink own index R0 n d).before a0 Z = true) (via : Via Z R0 O n d) (F : Sta Z h O n d v) (hd : decode bytes pc = .ok (.getstatic index, 3)) (hp : pc + 3 = pc')
    (k : ∀ T', Here p l e R s m args below meth c Z bytes maxL ret own nm h0 n0 ws EL kn T' h vm0 cells slots → Go p.tables e below P (T'.setTop (mkF m pc' Ls (v :: st)))) : Go p.tables e below P (T.setTop (mkF m pc Ls st)) := by
  obtain ⟨k0, locs, Y, N, eT, O, K, hx, hby, hml, hret, hlk, hown, hnm, hZ, hS, hk, hC, hEW, hKn, hsh⟩ := X
  subst hp
  obtain ⟨T', Y', e', st'⟩ := getS2 Y hx hZ hown (host := "") (Or.inl w) via eT F (g := mkF m pc Ls st) rfl (hb hby hd)
  exact Go.go st' (k T' ⟨k0, locs, Y', N, e', O, K, hx, hby, hml, hret, hlk, hown, hnm, hZ, hS, hk, hC, hEW, hKn, hsh⟩)
theorem o_castY {K' : String} {index : Nat} {a : Addr} (X : Here p l e R s m args below meth c Z bytes maxL ret own nm h0 n0 ws EL kn T h vm0 cells slots) (w : (Cond.classLink own index K').before a0 Z = true) (F : Ins Z h a K' true) (hd : decode bytes pc = .ok (.checkcast index, 3)) (hp : pc + 3 = pc')
    (k : ∀ T', Here p l e R s m args below meth c Z bytes maxL ret own nm h0 n0 ws EL kn T' h vm0 cells slots → Go p.tables e below P (T'.setTop (mkF m pc' Ls (.ref a :: st)))) : Go p.tables e below P (T.setTop (mkF m pc Ls (.ref a :: st))) := by
  obtain ⟨k0, locs, Y, N, eT, O, K, hx, hby, hml, hret, hlk, hown, hnm, hZ, hS, hk, hC, hEW, hKn, hsh⟩ := X
  subst hp
  obtain ⟨T', Y', e', st'⟩ := RoadKit.castY Y hx hZ hown w eT F (g := mkF m pc Ls (.ref a :: st)) rfl rfl (hb hby hd)
  exact Go.go st' (k T' ⟨k0, locs, Y', N, e', O, K, hx, hby, hml, hret, hlk, hown, hnm, hZ, hS, hk, hC, hEW, hKn, hsh⟩)
theorem o_instY {K' : String} {index : Nat} {a : Addr} (X : Here p l e R s m args below meth c Z bytes maxL ret own nm h0 n0 ws EL kn T h vm0 cells slots) (w : (Cond.classLink own index K').before a0 Z = true) (F : Ins Z h a K' true) (hd : decode bytes pc = .ok (.instanceof index, 3)) (hp : pc + 3 = pc')
    (k : ∀ T', Here p l e R s m args below meth c Z bytes maxL ret own nm h0 n0 ws EL kn T' h vm0 cells slots → Go p.tables e below P (T'.setTop (mkF m pc' Ls (.int 1 :: st)))) : Go p.tables e below P (T.setTop (mkF m pc Ls (.ref a :: st))) := by
  obtain ⟨k0, locs, Y, N, eT, O, K, hx, hby, hml, hret, hlk, hown, hnm, hZ, hS, hk, hC, hEW, hKn, hsh⟩ := X
  subst hp
  obtain ⟨T', Y', e', st'⟩ := RoadKit.instY Y hx hZ hown w eT F (g := mkF m pc Ls (.ref a :: st)) rfl rfl (hb hby hd)
  exact Go.go st' (k T' ⟨k0, locs, Y', N, e', O, K, hx, hby, hml, hret, hlk, hown, hnm, hZ, hS, hk, hC, hEW, hKn, hsh⟩)
theorem o_initO {idx W : Nat} {a : Addr} (X : Here p l e R s m args below meth c Z bytes maxL ret own nm h0 n0 ws EL kn T h vm0 cells slots) (w1 : (Cond.methodLink own idx Lib.objectInit).before a0 Z = true) (w2 : (Cond.instanceMethod Lib.objectInit).before a0 Z = true) (w3 : (Cond.code Lib.objectInit ⟨#[0xb1]⟩ 1 none).before a0 Z = true) (hsz : Ls.size = maxL) (hf : 1 ≤ R.frames) (hW : (st.map fun v => v.category).sum ≤ W) (hl : W + 12 ≤ R.locals) (hd : decode bytes pc = .ok (.invokespecial idx, 3)) (hp : pc + 3 = pc')
    (k : ∀ T', Here p l e R s m args below meth c Z bytes maxL ret own nm h0 n0 ws EL kn T' h vm0 cells slots → Go p.tables e below P (T'.setTop (mkF m pc' Ls st))) : Go p.tables e below P (T.setTop (mkF m pc Ls (.ref a :: st))) := by
  obtain ⟨k0, locs, Y, N, eT, O, K, hx, hby, hml, hret, hlk, hown, hnm, hZ, hS, hk, hC, hEW, hKn, hsh⟩ := X
  subst hp
  obtain ⟨T', Y', e', st'⟩ := RoadKit.initO Y hx hZ hown w1 w2 w3 eT (g := mkF m pc Ls (.ref a :: st)) rfl (by rw [hml]; exact hsz) rfl (hb hby hd) hf (W := W) (by show 2 * 0 + _ ≤ _; omega) hl
  exact Go.go st' (k T' ⟨k0, locs, Y', N, e', O, K, hx, hby, hml, hret, hlk, hown, hnm, hZ, hS, hk, hC, hEW, hKn, hsh⟩)
theorem oL {a : Addr} {ka : ClassId} {ty : FieldType} {n : Int32} {vs : List Value} {d : Value} (X : Here p l e R s m args below meth c Z bytes maxL ret own nm h0 n0 ws EL kn T h vm0 cells slots) (F : Arv Z h a ka ty n vs d) (hd : decode bytes pc = .ok (.arraylength, 1)) (hp : pc + 1 = pc')
    (k : Go p.tables e below P (T.setTop (mkF m pc' Ls (.int n :: st)))) : Go p.tables e below P (T.setTop (mkF m pc Ls (.ref a :: st))) := by
  obtain ⟨k0, locs, Y, N, eT, O, K, hx, hby, hml, hret, hlk, hown, hnm, hZ, hS, hk, hC, hEW, hKn, hsh⟩ := X
  subst hp
  obtain ⟨cl, A, -, S, q, -⟩ := F
  refine Go.go (Y.arraylength hx (by rw [eT]; exact A.1) (State.isArrayOf_alike hZ.alike A.2.1) (g := mkF m pc Ls (.ref a :: st)) rfl rfl (hb hby hd)) ?_
  rw [len_of S q]
  exact k
theorem oC {a : Addr} {ka : ClassId} {n j : Int32} {vs : List Value} {d v : Value} (X : Here p l e R s m args below meth c Z bytes maxL ret own nm h0 n0 ws EL kn T h vm0 cells slots) (F : Arv Z h a ka .char n vs d) (hj : ¬ j < 0 ∧ j < n) (hv : vs.getD j.toNatClampNeg d = v) (hd : decode bytes pc = .ok (.caload, 1)) (hp : pc + 1 = pc')
    (k : Go p.tables e below P (T.setTop (mkF m pc' Ls (v :: st)))) : Go p.tables e below P (T.setTop (mkF m pc Ls (.int j :: .ref a :: st))) := by
  obtain ⟨k0, locs, Y, N, eT, O, K, hx, hby, hml, hret, hlk, hown, hnm, hZ, hS, hk, hC, hEW, hKn, hsh⟩ := X
  subst hp
  obtain ⟨cl, A, -, S, q, H, -⟩ := F
  have hin := inb_of S hj
  exact Go.go (Y.caload hx (by rw [eT]; exact A.1) (State.isArrayOf_alike hZ.alike A.2.1) A.2.2 hin (H.at hin hv) (g := mkF m pc Ls (.int j :: .ref a :: st)) rfl rfl (hb hby hd)) k
theorem oB {a : Addr} {ka : ClassId} {n j : Int32} {vs : List Value} {d v : Value} (X : Here p l e R s m args below meth c Z bytes maxL ret own nm h0 n0 ws EL kn T h vm0 cells slots) (F : Arv Z h a ka .byte n vs d) (hj : ¬ j < 0 ∧ j < n) (hv : vs.getD j.toNatClampNeg d = v) (hd : decode bytes pc = .ok (.baload, 1)) (hp : pc + 1 = pc')
    (k : Go p.tables e below P (T.setTop (mkF m pc' Ls (v :: st)))) : Go p.tables e below P (T.setTop (mkF m pc Ls (.int j :: .ref a :: st))) := by
  obtain ⟨k0, locs, Y, N, eT, O, K, hx, hby, hml, hret, hlk, hown, hnm, hZ, hS, hk, hC, hEW, hKn, hsh⟩ := X
  subst hp
  obtain ⟨cl, A, -, S, q, H, -⟩ := F
  have hin := inb_of S hj
  exact Go.go (Y.baloadBytes hx (by rw [eT]; exact A.1) (State.isArrayOf_alike hZ.alike A.2.1) A.2.2 hin (H.at hin hv) (g := mkF m pc Ls (.int j :: .ref a :: st)) rfl rfl (hb hby hd)) k
theorem o_new {C : String} {index kk : Nat} (X : Here p l e R s m args below meth c Z bytes maxL ret own nm h0 n0 ws EL kn T h vm0 cells slots) (w : (Cond.classLink own index C).before a0 Z = true) (wi : (Cond.instantiable C kk).before a0 Z = true) (wz : (Cond.initialized C).before a0 Z = true) (hd : decode bytes pc = .ok (.new index, 3)) (hp : pc + 3 = pc') (hc : cells + 1 ≤ R.cells) (hl : slots + kk ≤ R.slots)
    (k : ∀ T' h' b, Here p l e R s m args below meth c Z bytes maxL ret own nm h0 n0 ws EL kn T' h' vm0 (cells + 1) (slots + kk) → b = h.size → b < h'.size → Ext h h' → Exa Z h' b C → (∀ {O nm d : String} {ty : FieldType}, Laid Z a0 C O nm d → parseFieldDescriptor d = some ty → Fld Z h' b O nm d (defaultValue ty)) → Unt h' b → CHr Z EL vm0 h vm0 h' → Safe Z EL vm0 h' b → Go p.tables e below P (T'.setTop (mkF m pc' Ls (.ref b :: st)))) : Go p.tables e below P (T.setTop (mkF m pc Ls st)) := by
  obtain ⟨k0, locs, Y, N, eT, O, K, hx, hby, hml, hret, hlk, hown, hnm, hZ, hS, hk, hC, hEW, hKn, hsh⟩ := X
  subst hp
  obtain ⟨T', h', Y', e', E', A', D', U', st'⟩ := newO Y hx hZ hown w wi wz eT (g := mkF m pc Ls st) rfl (hb hby hd) hc hl
  exact Go.go st' (k T' h' _ ⟨k0, locs, Y', N, e', O.ext E', K.ext E', hx, hby, hml, hret, hlk, hown, hnm, hZ, hS, Nat.le_trans hk E'.1, hC.trans (CHr.ext E' hC.1), hEW, hKn, hsh⟩ rfl A'.lt E' A' D' U' (CHr.ext E' hC.1) (Safe.ext E' hC.1 (Safe.new (Nat.le_refl _))))
theorem o_newP {aty : ArrayType} {n : Int32} {cap : Nat} {ad : String} (X : Here p l e R s m args below meth c Z bytes maxL ret own nm h0 n0 ws EL kn T h vm0 cells slots) (w : (Cond.arrayClass (newarray.typeOf aty)).before a0 Z = true) (hd : decode bytes pc = .ok (.newarray aty, 2)) (hp : pc + 2 = pc') (hn : ¬ n < 0) (hcap : n.toNatClampNeg ≤ cap) (hb' : cap * 8 ≤ 536870912) (hc : cells + 1 ≤ R.cells) (hl : slots + cap ≤ R.slots) (had : "[" ++ (newarray.typeOf aty).toString = ad)
    (k : ∀ T' h' b ka, Here p l e R s m args below meth c Z bytes maxL ret own nm h0 n0 ws EL kn T' h' vm0 (cells + 1) (slots + cap) → b = h.size → b < h'.size → Ext h h' → Arv Z h' b ka (newarray.typeOf aty) n [] (defaultValue (newarray.typeOf aty)) → Exa Z h' b ad → CHr Z EL vm0 h vm0 h' → Safe Z EL vm0 h' b → Go p.tables e below P (T'.setTop (mkF m pc' Ls (.ref b :: st)))) : Go p.tables e below P (T.setTop (mkF m pc Ls (.int n :: st))) := by
  obtain ⟨k0, locs, Y, N, eT, O, K, hx, hby, hml, hret, hlk, hown, hnm, hZ, hS, hk, hC, hEW, hKn, hsh⟩ := X
  subst hp
  obtain ⟨T', h', ka, Y', e', E', A', B', st'⟩ := newPE Y hx hZ w eT (g := mkF m pc Ls (.int n :: st)) rfl (hb hby hd) rfl hn hcap hb' hc hl had
  exact Go.go st' (k T' h' _ ka ⟨k0, locs, Y', N, e', O.ext E', K.ext E', hx, hby, hml, hret, hlk, hown, hnm, hZ, hS, Nat.le_trans hk E'.1, hC.trans (CHr.ext E' hC.1), hEW, hKn, hsh⟩ rfl A'.lt E' (Arv.new A' hn) B' (CHr.ext E' hC.1) (Safe.ext E' hC.1 (Safe.new (Nat.le_refl _))))
theorem oP {R0 O n d C : String} {index kk : Nat} {ty : FieldType} {a : Addr} {v v' old : Value} (X : Here p l e R s m args below meth c Z bytes maxL ret own nm h0 n0 ws EL kn T h vm0 cells slots) (w : (Cond.fieldLink own index R0 n d).before a0 Z = true) (via : Via Z R0 O n d) (F : Fld Z h a O n d old) (E : Exa Z h a C) (L : (Cond.lays C O n d).before a0 Z = true ∨ ((Cond.laysFinal C O n d).before a0 Z = true ∧ own = O ∧ nm = "<init>")) (wi : (Cond.instantiable C kk).before a0 Z = true) (hty : parseFieldDescriptor d = some ty) (hv : narrow ty v = v') (hf : fits ty v' = true) (hd : decode bytes pc = .ok (.putfield index, 3)) (hp : pc + 3 = pc') (hn0 : n0 ≤ a) (hws : a ∈ ws ∨ h0.size ≤ a) (hsf : Safe Z EL vm0 h a)
    (k : ∀ T' h', Here p l e R s m args below meth c Z bytes maxL ret own nm h0 n0 ws EL kn T' h' vm0 cells slots → Wr h h' a (RoadKit.slotOf Z O n d) v' → CHr Z EL vm0 h vm0 h' → Go p.tables e below P (T'.setTop (mkF m pc' Ls st))) : Go p.tables e below P (T.setTop (mkF m pc Ls (v :: .ref a :: st))) := by
  obtain ⟨k0, locs, Y, N, eT, O, K, hx, hby, hml, hret, hlk, hown, hnm, hZ, hS, hk, hC, hEW, hKn, hsh⟩ := X
  subst hp
  obtain ⟨T', h', Y', e', W', st'⟩ := putFN Y hx hZ hown w via eT F E (L.imp id fun q => ⟨q.1, q.2.1, hnm.trans q.2.2⟩) wi hty hv hf (g := mkF m pc Ls (v :: .ref a :: st)) rfl rfl (hb hby hd)
  exact Go.go st' (k T' h' ⟨k0, _, Y', Fr.snoc Y' N hn0, e', O.wr W' hn0, K.wr W' hws, hx, hby, hml, hret, hlk, hown, hnm, hZ, hS, by rw [W'.size]; exact hk, hC.trans (CHr.wr W' hsf hC.1), hEW, hKn, hsh⟩ W' (CHr.wr W' hsf hC.1))
theorem o_stC {a : Addr} {ka : ClassId} {n j : Int32} {x y : Int32} {i : Nat} {vs : List Value} {d : Value} (X : Here p l e R s m args below meth c Z bytes maxL ret own nm h0 n0 ws EL kn T h vm0 cells slots) (F : Arv Z h a ka .char n vs d) (hj : ¬ j < 0 ∧ j < n) (hi : j.toNatClampNeg = i) (hil : i < vs.length) (hv : nar .char x = y) (hd : decode bytes pc = .ok (.castore, 1)) (hp : pc + 1 = pc') (hn0 : n0 ≤ a) (hws : a ∈ ws ∨ h0.size ≤ a) (hsf : Safe Z EL vm0 h a)
    (k : ∀ T' h', Here p l e R s m args below meth c Z bytes maxL ret own nm h0 n0 ws EL kn T' h' vm0 cells slots → (∃ sl w, Wr h h' a sl w) → CHr Z EL vm0 h vm0 h' → Arv Z h' a ka .char n (vs.set i (.int y)) d → Go p.tables e below P (T'.setTop (mkF m pc' Ls st))) : Go p.tables e below P (T.setTop (mkF m pc Ls (.int x :: .int j :: .ref a :: st))) := by
  obtain ⟨k0, locs, Y, N, eT, O, K, hx, hby, hml, hret, hlk, hown, hnm, hZ, hS, hk, hC, hEW, hKn, hsh⟩ := X
  subst hp hv
  obtain ⟨cl, A, q1, S, q, H, G⟩ := F
  obtain ⟨T', h', Y', e', W', st'⟩ := RoadKit.stC Y hx hZ eT A (inb_of S hj) (g := mkF m pc Ls (.int x :: .int j :: .ref a :: st)) rfl rfl (hb hby hd)
  exact Go.go st' (k T' h' ⟨k0, _, Y', Fr.snoc Y' N hn0, e', O.wr W' hn0, K.wr W' hws, hx, hby, hml, hret, hlk, hown, hnm, hZ, hS, by rw [W'.size]; exact hk, hC.trans (CHr.wr W' hsf hC.1), hEW, hKn, hsh⟩ ⟨_, _, W'⟩ (CHr.wr W' hsf hC.1) (Arv.set A q1 S q H G (fits_nar_char _) W' i hi hil))
theorem o_stB {a : Addr} {ka : ClassId} {n j : Int32} {x y : Int32} {i : Nat} {vs : List Value} {d : Value} (X : Here p l e R s m args below meth c Z bytes maxL ret own nm h0 n0 ws EL kn T h vm0 cells slots) (F : Arv Z h a ka .byte n vs d) (hj : ¬ j < 0 ∧ j < n) (hi : j.toNatClampNeg = i) (hil : i < vs.length) (hv : nar .byte x = y) (hd : decode bytes pc = .ok (.bastore, 1)) (hp : pc + 1 = pc') (hn0 : n0 ≤ a) (hws : a ∈ ws ∨ h0.size ≤ a) (hsf : Safe Z EL vm0 h a)
    (k : ∀ T' h', Here p l e R s m args below meth c Z bytes maxL ret own nm h0 n0 ws EL kn T' h' vm0 cells slots → (∃ sl w, Wr h h' a sl w) → CHr Z EL vm0 h vm0 h' → Arv Z h' a ka .byte n (vs.set i (.int y)) d → Go p.tables e below P (T'.setTop (mkF m pc' Ls st))) : Go p.tables e below P (T.setTop (mkF m pc Ls (.int x :: .int j :: .ref a :: st))) := by
  obtain ⟨k0, locs, Y, N, eT, O, K, hx, hby, hml, hret, hlk, hown, hnm, hZ, hS, hk, hC, hEW, hKn, hsh⟩ := X
  subst hp hv
  obtain ⟨cl, A, q1, S, q, H, G⟩ := F
  obtain ⟨T', h', Y', e', W', st'⟩ := RoadKit.stB Y hx hZ eT A (inb_of S hj) (g := mkF m pc Ls (.int x :: .int j :: .ref a :: st)) rfl rfl (hb hby hd)
  exact Go.go st' (k T' h' ⟨k0, _, Y', Fr.snoc Y' N hn0, e', O.wr W' hn0, K.wr W' hws, hx, hby, hml, hret, hlk, hown, hnm, hZ, hS, by rw [W'.size]; exact hk, hC.trans (CHr.wr W' hsf hC.1), hEW, hKn, hsh⟩ ⟨_, _, W'⟩ (CHr.wr W' hsf hC.1) (Arv.set A q1 S q H G (fits_nar_byte _) W' i hi hil))
theorem o_cp {index : Nat} {b a : Addr} {ka kb : ClassId} {ty ty' : FieldType} {z z' sp dp nn : Int32} {vs vd us vr : List Value} {dv dd : Value} {W : Nat} (X : Here p l e R s m args below meth c Z bytes maxL ret own nm h0 n0 ws EL kn T h vm0 cells slots) (w1 : (Cond.methodLink own index Jvm.Stand.acN).before a0 Z = true) (w2 : (Cond.native Jvm.Stand.acN).before a0 Z = true) (w3 : (Cond.static Jvm.Stand.acN).before a0 Z = true) (w4 : (Cond.initialized "java/lang/System").before a0 Z = true) (A : Arv Z h b kb ty z vs dv) (B : Arv Z h a ka ty' z' vd dd) (hty : (ty = ty' ∧ refKind ty = false) ∨ (refKind ty = true ∧ refKind ty' = true ∧ StoL Z h a us))
    (h1 : ¬ sp < 0) (h2 : ¬ dp < 0) (h3 : ¬ nn < 0) (h4 : sp.toNatClampNeg + nn.toNatClampNeg ≤ z.toNatClampNeg) (h5 : dp.toNatClampNeg + nn.toNatClampNeg ≤ z'.toNatClampNeg) (hus : us = (List.range nn.toNatClampNeg).map fun i => vs.getD (sp.toNatClampNeg + i) dv) (hl : dp.toNatClampNeg + nn.toNatClampNeg ≤ vd.length) (hvr : vd.take dp.toNatClampNeg ++ us ++ vd.drop (dp.toNatClampNeg + nn.toNatClampNeg) = vr)
    (hd : decode bytes pc = .ok (.invokestatic index, 3)) (hp : pc + 3 = pc') (hsz : Ls.size = maxL) (hf : 1 ≤ R.frames) (hW : (rest.map fun v => v.category).sum ≤ W) (hlo : W + (nativeFrameWords "java/lang/System" "arraycopy" 5 + 11) ≤ R.locals) (hn0 : n0 ≤ a) (hws : a ∈ ws ∨ h0.size ≤ a) (hsf : Safe Z EL vm0 h a)
    (k : ∀ T' h', Here p l e R s m args below meth c Z bytes maxL ret own nm h0 n0 ws EL kn T' h' vm0 cells slots → Keep h h' [a] → CHr Z EL vm0 h vm0 h' → Arv Z h' a ka ty' z' vr dd → Go p.tables e below P (T'.setTop (mkF m pc' Ls rest))) : Go p.tables e below P (T.setTop (mkF m pc Ls (.int nn :: .int dp :: .ref a :: .int sp :: .ref b :: rest))) := by
  obtain ⟨k0, locs, Y, N, eT, O, K, hx, hby, hml, hret, hlk, hown, hnm, hZ, hS, hk, hC, hEW, hKn, hsh⟩ := X
  subst hp hvr
  obtain ⟨T', h', L', Y', e', N', K', A', st'⟩ := cpA Y hx hZ hown w1 w2 w3 w4 eT A B hty h1 h2 h3 h4 h5 hus hl N hn0 (g := mkF m pc Ls (.int nn :: .int dp :: .ref a :: .int sp :: .ref b :: rest)) rfl (by rw [hml]; exact hsz) rfl (hb hby hd) hf (W := W) (by show 2 * 0 + _ ≤ _; omega) hlo
  exact Go.go st' (k T' h' ⟨k0, L', Y', N', e', O.keep K' (allS hn0 all0), K.trans K' (allS hws all0), hx, hby, hml, hret, hlk, hown, hnm, hZ, hS, Nat.le_trans hk K'.1, hC.trans (CHr.keep K' (allS hsf all0) hC.1), hEW, hKn, hsh⟩ K' (CHr.keep K' (allS hsf all0) hC.1) A')
theorem o_ldcI {index : Nat} {v : Int32} (X : Here p l e R s m args below meth c Z bytes maxL ret own nm h0 n0 ws EL kn T h vm0 cells slots) (w : (Cond.constant own index v).before a0 Z = true) (hd : decode bytes pc = .ok (.ldc index, 2)) (hp : pc + 2 = pc')
    (k : Go p.tables e below P (T.setTop (mkF m pc' Ls (.int v :: st)))) : Go p.tables e below P (T.setTop (mkF m pc Ls st)) := by
  obtain ⟨k0, locs, Y, N, eT, O, K, hx, hby, hml, hret, hlk, hown, hnm, hZ, hS, hk, hC, hEW, hKn, hsh⟩ := X
  subst hp
  exact Go.go (Y.ldcInt hx hown (mvT hZ w) (g := mkF m pc Ls st) rfl (hb hby hd)) k
theorem oz  {Po : Option Value → Heap → Vm → Prop} (X : Here p l e R s m args below meth c Z bytes maxL ret own nm h0 n0 ws EL kn T h vm0 cells slots) (hd : decode bytes pc = .ok (.return_, 1)) (hr0 : ret = none) (hc : cells ≤ R.cells) (hs : slots ≤ R.slots) (hQ : ∀ vm', CHr Z EL vm0 h vm' h → Po (none) h vm') : Go p.tables e below (PO s R h0 n0 ws Z EL Po) (T.setTop (mkF m pc Ls [])) := by
  obtain ⟨k0, locs, Y, N, eT, O, K, hx, hby, hml, hret, hlk, hown, hnm, hZ, hS, hk, hC, hEW, hKn, hsh⟩ := X
  obtain ⟨fs, hr, hrun, hended, hW, hsame⟩ := Y.leave (v := none) (fun _ => rfl) hlk
  have hE := hS.ended (U := T.setFrames fs) hW (by show k0 ≤ T.heap.size; rw [eT]; exact hk) (hsame.mono hc hs)
  obtain ⟨a1, hew⟩ := hEW
  have hC1 : CHr Z EL vm0 h T.vm h := CHv.at Y hZ hew hC.1
  have hC2 : CHr Z EL s.vm s.heap T.vm T.heap := by
    rw [hsh, eT]
    exact hC.trans hC1
  refine ⟨_, _, ?_, hrun, hended, _, _, rfl, ⟨N, ?_, ?_⟩, hC2, ⟨_, rfl⟩, hE.1, hE.2.1, hE.2.2⟩
  · exact Y.returnOut hx (hret.trans hr0) (hb hby hd) hr
  · show Keep h0 T.heap ws
    rw [eT]; exact K
  · show Po _ T.heap T.vm
    rw [eT]; exact hQ _ hC1
theorem o_iret {z : Int32} {Po : Option Value → Heap → Vm → Prop} (X : Here p l e R s m args below meth c Z bytes maxL ret own nm h0 n0 ws EL kn T h vm0 cells slots) (hd : decode bytes pc = .ok (.ireturn, 1)) (hr0 : ret = some .int) (hc : cells ≤ R.cells) (hs : slots ≤ R.slots) (hQ : ∀ vm', CHr Z EL vm0 h vm' h → Po (some (.int z)) h vm') : Go p.tables e below (PO s R h0 n0 ws Z EL Po) (T.setTop (mkF m pc Ls (.int z :: rest))) := by
  obtain ⟨k0, locs, Y, N, eT, O, K, hx, hby, hml, hret, hlk, hown, hnm, hZ, hS, hk, hC, hEW, hKn, hsh⟩ := X
  obtain ⟨fs, hr, hrun, hended, hW, hsame⟩ := Y.leave (v := some (.int z)) (fun h => by rw [hret, hr0] at h; cases h) hlk
  have hE := hS.ended (U := T.setFrames fs) hW (by show k0 ≤ T.heap.size; rw [eT]; exact hk) (hsame.mono hc hs)
  obtain ⟨a1, hew⟩ := hEW
  have hC1 : CHr Z EL vm0 h T.vm h := CHv.at Y hZ hew hC.1
  have hC2 : CHr Z EL s.vm s.heap T.vm T.heap := by
    rw [hsh, eT]
    exact hC.trans hC1
  refine ⟨_, _, ?_, hrun, hended, _, _, rfl, ⟨N, ?_, ?_⟩, hC2, ⟨_, rfl⟩, hE.1, hE.2.1, hE.2.2⟩
  · exact retOut Y hx (hret.trans hr0) rfl (Or.inl ⟨rfl, Or.inl rfl, _, rfl⟩) (hb hby hd) hr
  · show Keep h0 T.heap ws
    rw [eT]; exact K
  · show Po _ T.heap T.vm
    rw [eT]; exact hQ _ hC1
theorem o_nret {z y : Int32} {t : FieldType} {Po : Option Value → Heap → Vm → Prop} (X : Here p l e R s m args below meth c Z bytes maxL ret own nm h0 n0 ws EL kn T h vm0 cells slots) (hd : decode bytes pc = .ok (.ireturn, 1)) (hr0 : ret = some t) (hv : nar t z = y) (ht : t = .boolean ∨ t = .byte ∨ t = .char ∨ t = .short) (hc : cells ≤ R.cells) (hs : slots ≤ R.slots) (hQ : ∀ vm', CHr Z EL vm0 h vm' h → Po (some (.int y)) h vm') : Go p.tables e below (PO s R h0 n0 ws Z EL Po) (T.setTop (mkF m pc Ls (.int z :: rest))) := by
  obtain ⟨k0, locs, Y, N, eT, O, K, hx, hby, hml, hret, hlk, hown, hnm, hZ, hS, hk, hC, hEW, hKn, hsh⟩ := X
  obtain ⟨fs, hr, hrun, hended, hW, hsame⟩ := Y.leave (v := some (.int y)) (fun h => by rw [hret, hr0] at h; cases h) hlk
  have hE := hS.ended (U := T.setFrames fs) hW (by show k0 ≤ T.heap.size; rw [eT]; exact hk) (hsame.mono hc hs)
  obtain ⟨a1, hew⟩ := hEW
  have hC1 : CHr Z EL vm0 h T.vm h := CHv.at Y hZ hew hC.1
  have hC2 : CHr Z EL s.vm s.heap T.vm T.heap := by
    rw [hsh, eT]
    exact hC.trans hC1
  refine ⟨_, _, ?_, hrun, hended, _, _, rfl, ⟨N, ?_, ?_⟩, hC2, ⟨_, rfl⟩, hE.1, hE.2.1, hE.2.2⟩
  · subst hv; exact retN Y hx (hret.trans hr0) ht (hb hby hd) hr
  · show Keep h0 T.heap ws
    rw [eT]; exact K
  · show Po _ T.heap T.vm
    rw [eT]; exact hQ _ hC1
theorem oR {w : Value} {t : FieldType} {Po : Option Value → Heap → Vm → Prop} (X : Here p l e R s m args below meth c Z bytes maxL ret own nm h0 n0 ws EL kn T h vm0 cells slots) (hd : decode bytes pc = .ok (.areturn, 1)) (hr0 : ret = some t) (ht : t.isReference = true) (hw : w.isRef = true) (hc : cells ≤ R.cells) (hs : slots ≤ R.slots) (hQ : ∀ vm', CHr Z EL vm0 h vm' h → Po (some w) h vm') : Go p.tables e below (PO s R h0 n0 ws Z EL Po) (T.setTop (mkF m pc Ls (w :: rest))) := by
  obtain ⟨k0, locs, Y, N, eT, O, K, hx, hby, hml, hret, hlk, hown, hnm, hZ, hS, hk, hC, hEW, hKn, hsh⟩ := X
  obtain ⟨fs, hr, hrun, hended, hW, hsame⟩ := Y.leave (v := some w) (fun h => by rw [hret, hr0] at h; cases h) hlk
  have hE := hS.ended (U := T.setFrames fs) hW (by show k0 ≤ T.heap.size; rw [eT]; exact hk) (hsame.mono hc hs)
  obtain ⟨a1, hew⟩ := hEW
  have hC1 : CHr Z EL vm0 h T.vm h := CHv.at Y hZ hew hC.1
  have hC2 : CHr Z EL s.vm s.heap T.vm T.heap := by
    rw [hsh, eT]
    exact hC.trans hC1
  refine ⟨_, _, ?_, hrun, hended, _, _, rfl, ⟨N, ?_, ?_⟩, hC2, ⟨_, rfl⟩, hE.1, hE.2.1, hE.2.2⟩
  · exact retOut Y hx (hret.trans hr0) (by rcases ref_cases hw with rfl | ⟨a, rfl⟩ <;> cases t <;> first | rfl | cases ht) (Or.inr (Or.inr (Or.inr (Or.inr ⟨rfl, ht, hw⟩)))) (hb hby hd) hr
  · show Keep h0 T.heap ws
    rw [eT]; exact K
  · show Po _ T.heap T.vm
    rw [eT]; exact hQ _ hC1
theorem o_static {index : Nat} {y : MethodName} {bytes' : ByteArray} {maxL' : Nat} {ret' : Option FieldType} {W kc ks : Nat} {Q : Option Value → Heap → Vm → List Loc → Prop} {ws' : List Addr} {argsL : List Value} (X : Here p l e R s m args below meth c Z bytes maxL ret own nm h0 n0 ws EL kn T h vm0 cells slots) (w1 : (Cond.methodLink own index y).before a0 Z = true) (w2 : (Cond.static y).before a0 Z = true) (w3 : (Cond.initialized y.cls).before a0 Z = true) (w4 : (Cond.code y bytes' maxL' ret').before a0 Z = true) (hy : y.cls ≠ "java/lang/invoke/MethodHandle" ∧ y.cls ≠ "java/lang/invoke/VarHandle") (hlen : ∀ sig, parseMethodDescriptor y.desc = some sig → argsL.length = sig.parameters.length) (hK : BackS l R p e below (s.setVm vm0) args y 3 W (fun A a => a = argsL.toArray ∧ A.U.heap = h ∧ A.cells + kc ≤ R.cells ∧ A.slots + ks ≤ R.slots) (fun A _ v B => ∃ L, Q v B.U.heap B.U.vm L ∧ B.locs = A.locs ++ L ∧ B.cells = A.cells + kc ∧ B.slots = A.slots + ks ∧ CHr Z EL vm0 h B.U.vm B.U.heap)) (hd : decode bytes pc = .ok (.invokestatic index, 3)) (hp : pc + 3 = pc') (hsz : Ls.size = maxL) (hstk : st = argsL.reverse ++ rest) (hW : (rest.map fun v => v.category).sum ≤ W) (hc : cells + kc ≤ R.cells) (hs : slots + ks ≤ R.slots) (hQ : ∀ v h' vm' L, Q v h' vm' L → Fr n0 L ∧ Keep h h' ws') (hws : ∀ x ∈ ws', n0 ≤ x ∧ (x ∈ ws ∨ h0.size ≤ x))
    (k : ∀ v T' h' L vm', Here p l e R s m args below meth c Z bytes maxL ret own nm h0 n0 ws EL kn T' h' vm' (cells + kc) (slots + ks) → Q v h' vm' L → Keep h h' ws' → CHr Z EL vm0 h vm' h' → Go p.tables e below P (T'.setTop (mkF m pc' Ls (v.toList ++ rest)))) : Go p.tables e below P (T.setTop (mkF m pc Ls st)) := by
  obtain ⟨k0, locs, Y, N, eT, O, K, hx, hby, hml, hret, hlk, hown, hnm, hZ, hS, hk, hC, hEW, hKn, hsh⟩ := X
  subst hp hstk
  obtain ⟨v, vm₁, ⟨T', L', k', n'⟩, -, X', hS', hg', ⟨L, hq, l', y', z', hC'⟩, st'⟩ := RoadKit.callSS Y hx hown (mvT hZ w1) (mvT hZ w2) (mvT hZ w3) (mvT hZ w4) hy hK (g := mkF m pc Ls (argsL.reverse ++ rest)) rfl (by rw [hml]; exact hsz) (argsL := argsL) (rest := rest) hlen rfl (by show 2 * 0 + _ ≤ _; omega) (hb hby hd) (fun _ _ => ⟨rfl, eT, hc, hs⟩)
  dsimp only [Pt.U, Pt.locs, Pt.cells, Pt.slots] at X' hS' hg' l' y' z' st' hq hC'
  subst l' y' z'
  obtain ⟨f1, f2⟩ := hQ _ _ _ _ hq
  have hZ' : Z.Warmed39 T'.vm := State.Warmed39.trans (t := s.setVm vm0) hZ hS'.1
  have hown' : T'.vm.findClass own = some m.cls := by
    have q := hS'.1.alike.findClass (name := own)
    exact (q _).trans hown
  exact Go.go (fun t q => st'.trans q) (k v T' _ L T'.vm ⟨T'.heap.size, _, X', N.app f1, rfl, O.keep f2 (fun x hx => (hws x hx).1), K.trans f2 (fun x hx => (hws x hx).2), hx, hby, hml, hret, hlk, hown', hnm, hZ', hS.trans hS' (Nat.le_trans hk (by rw [← eT]; exact hg')), Nat.le_refl _, hC.trans hC', hEW, KnP.alike hKn hS'.1.alike, hsh⟩ hq f2 hC')
theorem o_special {index : Nat} {y : MethodName} {bytes' : ByteArray} {maxL' : Nat} {b : Addr} {W kc ks : Nat} {Q : Option Value → Heap → Vm → List Loc → Prop} {ws' : List Addr} {argsL : List Value} (X : Here p l e R s m args below meth c Z bytes maxL ret own nm h0 n0 ws EL kn T h vm0 cells slots) (hy1 : y.name = "<init>") (w1 : (Cond.methodLink own index y).before a0 Z = true) (w2 : (Cond.instanceMethod y).before a0 Z = true) (w4 : (Cond.code y bytes' maxL' none).before a0 Z = true) (hy : y.cls ≠ "java/lang/invoke/MethodHandle" ∧ y.cls ≠ "java/lang/invoke/VarHandle") (hlen : ∀ sig, parseMethodDescriptor y.desc = some sig → argsL.length = sig.parameters.length) (hK : BackS l R p e below (s.setVm vm0) args y 3 W (fun A a => a = (.ref b :: argsL).toArray ∧ A.U.heap = h ∧ A.cells + kc ≤ R.cells ∧ A.slots + ks ≤ R.slots) (fun A _ v B => ∃ L, Q v B.U.heap B.U.vm L ∧ B.locs = A.locs ++ L ∧ B.cells = A.cells + kc ∧ B.slots = A.slots + ks ∧ CHr Z EL vm0 h B.U.vm B.U.heap)) (hd : decode bytes pc = .ok (.invokespecial index, 3)) (hp : pc + 3 = pc') (hsz : Ls.size = maxL) (hstk : st = argsL.reverse ++ .ref b :: rest) (hW : (rest.map fun v => v.category).sum ≤ W) (hc : cells + kc ≤ R.cells) (hs : slots + ks ≤ R.slots) (hQ : ∀ v h' vm' L, Q v h' vm' L → Fr n0 L ∧ Keep h h' ws') (hws : ∀ x ∈ ws', n0 ≤ x ∧ (x ∈ ws ∨ h0.size ≤ x))
    (k : ∀ v T' h' L vm', Here p l e R s m args below meth c Z bytes maxL ret own nm h0 n0 ws EL kn T' h' vm' (cells + kc) (slots + ks) → Q v h' vm' L → Keep h h' ws' → CHr Z EL vm0 h vm' h' → Go p.tables e below P (T'.setTop (mkF m pc' Ls (v.toList ++ rest)))) : Go p.tables e below P (T.setTop (mkF m pc Ls st)) := by
  obtain ⟨k0, locs, Y, N, eT, O, K, hx, hby, hml, hret, hlk, hown, hnm, hZ, hS, hk, hC, hEW, hKn, hsh⟩ := X
  subst hp hstk
  obtain ⟨v, vm₁, ⟨T', L', k', n'⟩, -, X', hS', hg', ⟨L, hq, l', y', z', hC'⟩, st'⟩ := Y.specialBackS hx hy1 hown (mvT hZ w1) (mvT hZ w2) (mvT hZ w4) hy hK (g := mkF m pc Ls (argsL.reverse ++ .ref b :: rest)) rfl (by rw [hml]; exact hsz) (Steps.refl _) (a := b) (argsL := argsL) (rest := rest) hlen rfl (by show 2 * 0 + _ ≤ _; omega) (hb hby hd) (fun _ _ => ⟨rfl, eT, hc, hs⟩)
  dsimp only [Pt.U, Pt.locs, Pt.cells, Pt.slots] at X' hS' hg' l' y' z' st' hq hC'
  subst l' y' z'
  obtain ⟨f1, f2⟩ := hQ _ _ _ _ hq
  have hZ' : Z.Warmed39 T'.vm := State.Warmed39.trans (t := s.setVm vm0) hZ hS'.1
  have hown' : T'.vm.findClass own = some m.cls := by
    have q := hS'.1.alike.findClass (name := own)
    exact (q _).trans hown
  exact Go.go (fun t q => st'.trans q) (k v T' _ L T'.vm ⟨T'.heap.size, _, X', N.app f1, rfl, O.keep f2 (fun x hx => (hws x hx).1), K.trans f2 (fun x hx => (hws x hx).2), hx, hby, hml, hret, hlk, hown', hnm, hZ', hS.trans hS' (Nat.le_trans hk (by rw [← eT]; exact hg')), Nat.le_refl _, hC.trans hC', hEW, KnP.alike hKn hS'.1.alike, hsh⟩ hq f2 hC')
theorem o_virtual {index : Nat} {C : String} {y z : MethodName} {b : Addr} {W kc ks : Nat} {Q : Option Value → Heap → Vm → List Loc → Prop} {ws' : List Addr} {argsL : List Value} (X : Here p l e R s m args below meth c Z bytes maxL ret own nm h0 n0 ws EL kn T h vm0 cells slots) (E : Exa Z h b C) (w1 : (Cond.methodLink own index y).before a0 Z = true) (w2 : (Cond.declares y).before a0 Z = true) (w3 : (Cond.selects C y z).before a0 Z = true) (w4 : (Cond.instanceMethod z).before a0 Z = true) (nf : ∀ s' : State, Z.Warmed39 s'.vm → NotFace s' y) (hy : y.cls ≠ "java/lang/invoke/MethodHandle" ∧ y.cls ≠ "java/lang/invoke/VarHandle") (hlen : ∀ sig, parseMethodDescriptor y.desc = some sig → argsL.length = sig.parameters.length) (hK : BackS l R p e below (s.setVm vm0) args z 3 W (fun A a => a = (.ref b :: argsL).toArray ∧ A.U.heap = h ∧ A.cells + kc ≤ R.cells ∧ A.slots + ks ≤ R.slots) (fun A _ v B => ∃ L, Q v B.U.heap B.U.vm L ∧ B.locs = A.locs ++ L ∧ B.cells = A.cells + kc ∧ B.slots = A.slots + ks ∧ CHr Z EL vm0 h B.U.vm B.U.heap)) (hd : decode bytes pc = .ok (.invokevirtual index, 3)) (hp : pc + 3 = pc') (hsz : Ls.size = maxL) (hstk : st = argsL.reverse ++ .ref b :: rest) (hW : (rest.map fun v => v.category).sum ≤ W) (hc : cells + kc ≤ R.cells) (hs : slots + ks ≤ R.slots) (hQ : ∀ v h' vm' L, Q v h' vm' L → Fr n0 L ∧ Keep h h' ws') (hws : ∀ x ∈ ws', n0 ≤ x ∧ (x ∈ ws ∨ h0.size ≤ x))
    (k : ∀ v T' h' L vm', Here p l e R s m args below meth c Z bytes maxL ret own nm h0 n0 ws EL kn T' h' vm' (cells + kc) (slots + ks) → Q v h' vm' L → Keep h h' ws' → CHr Z EL vm0 h vm' h' → Go p.tables e below P (T'.setTop (mkF m pc' Ls (v.toList ++ rest)))) : Go p.tables e below P (T.setTop (mkF m pc Ls st)) := by
  obtain ⟨k0, locs, Y, N, eT, O, K, hx, hby, hml, hret, hlk, hown, hnm, hZ, hS, hk, hC, hEW, hKn, hsh⟩ := X
  obtain ⟨cq, kq, qa, qb, qc⟩ := isOf (s := s.setVm vm0) hZ eT E
  subst hp hstk
  obtain ⟨v, vm₁, ⟨T', L', k', n'⟩, -, X', hS', hg', ⟨L, hq, l', y', z', hC'⟩, st'⟩ := (Y.virtualBackS hx (y := y) (z := z) hown (mvT hZ w1) (mvT hZ w2) (nf _ hZ) (mvT hZ w3) (mvT hZ w4) hy hK qa qc (g := mkF m pc Ls (argsL.reverse ++ .ref b :: rest)) rfl (by rw [hml]; exact hsz) (Steps.refl _) (argsL := argsL) (rest := rest) hlen rfl (by show 2 * 0 + _ ≤ _; omega) (hb hby hd) (fun _ _ => ⟨rfl, eT, hc, hs⟩))
  dsimp only [Pt.U, Pt.locs, Pt.cells, Pt.slots] at X' hS' hg' l' y' z' st' hq hC'
  subst l' y' z'
  obtain ⟨f1, f2⟩ := hQ _ _ _ _ hq
  have hZ' : Z.Warmed39 T'.vm := State.Warmed39.trans (t := s.setVm vm0) hZ hS'.1
  have hown' : T'.vm.findClass own = some m.cls := by
    have q := hS'.1.alike.findClass (name := own)
    exact (q _).trans hown
  exact Go.go (fun t q => st'.trans q) (k v T' _ L T'.vm ⟨T'.heap.size, _, X', N.app f1, rfl, O.keep f2 (fun x hx => (hws x hx).1), K.trans f2 (fun x hx => (hws x hx).2), hx, hby, hml, hret, hlk, hown', hnm, hZ', hS.trans hS' (Nat.le_trans hk (by rw [← eT]; exact hg')), Nat.le_refl _, hC.trans hC', hEW, KnP.alike hKn hS'.1.alike, hsh⟩ hq f2 hC')
theorem o_super {index : Nat} {y : MethodName} {bytes' : ByteArray} {maxL' : Nat} {ret' : Option FieldType} {C : String} {b : Addr} {W kc ks : Nat} {Q : Option Value → Heap → Vm → List Loc → Prop} {ws' : List Addr} {argsL : List Value} (X : Here p l e R s m args below meth c Z bytes maxL ret own nm h0 n0 ws EL kn T h vm0 cells slots) (E : Exa Z h b C) (w1 : (Cond.methodLink own index y).before a0 Z = true) (w2 : (Cond.sameMethod y.cls y.cls y.name y.desc).before a0 Z = true) (w3 : (Cond.instanceMethod y).before a0 Z = true) (w5 : (Cond.superclass own y.cls).before a0 Z = true) (hni : y.name ≠ "<init>") (w4 : (Cond.code y bytes' maxL' ret').before a0 Z = true) (hlen : ∀ sig, parseMethodDescriptor y.desc = some sig → argsL.length = sig.parameters.length) (hK : BackS l R p e below (s.setVm vm0) args y 3 W (fun A a => a = (.ref b :: argsL).toArray ∧ A.U.heap = h ∧ A.cells + kc ≤ R.cells ∧ A.slots + ks ≤ R.slots) (fun A _ v B => ∃ L, Q v B.U.heap B.U.vm L ∧ B.locs = A.locs ++ L ∧ B.cells = A.cells + kc ∧ B.slots = A.slots + ks ∧ CHr Z EL vm0 h B.U.vm B.U.heap)) (hd : decode bytes pc = .ok (.invokespecial index, 3)) (hp : pc + 3 = pc') (hsz : Ls.size = maxL) (hstk : st = argsL.reverse ++ .ref b :: rest) (hW : (rest.map fun v => v.category).sum ≤ W) (hc : cells + kc ≤ R.cells) (hs : slots + ks ≤ R.slots) (hQ : ∀ v h' vm' L, Q v h' vm' L → Fr n0 L ∧ Keep h h' ws') (hws : ∀ x ∈ ws', n0 ≤ x ∧ (x ∈ ws ∨ h0.size ≤ x))
    (k : ∀ v T' h' L vm', Here p l e R s m args below meth c Z bytes maxL ret own nm h0 n0 ws EL kn T' h' vm' (cells + kc) (slots + ks) → Q v h' vm' L → Keep h h' ws' → CHr Z EL vm0 h vm' h' → Go p.tables e below P (T'.setTop (mkF m pc' Ls (v.toList ++ rest)))) : Go p.tables e below P (T.setTop (mkF m pc Ls st)) := by
  obtain ⟨k0, locs, Y, N, eT, O, K, hx, hby, hml, hret, hlk, hown, hnm, hZ, hS, hk, hC, hEW, hKn, hsh⟩ := X
  subst hp hstk
  obtain ⟨v, vm₁, ⟨T', L', k', n'⟩, -, X', hS', hg', ⟨L, hq, l', y', z', hC'⟩, st'⟩ := superBackS Y hx hZ hown w1 w2 w3 w5 hni hK eT (Ins.self E) (g := mkF m pc Ls (argsL.reverse ++ .ref b :: rest)) rfl (by rw [hml]; exact hsz) w4 (argsL := argsL) (rest := rest) hlen rfl (by show 2 * 0 + _ ≤ _; omega) (hb hby hd) (fun _ _ => ⟨rfl, eT, hc, hs⟩)
  dsimp only [Pt.U, Pt.locs, Pt.cells, Pt.slots] at X' hS' hg' l' y' z' st' hq hC'
  subst l' y' z'
  obtain ⟨f1, f2⟩ := hQ _ _ _ _ hq
  have hZ' : Z.Warmed39 T'.vm := State.Warmed39.trans (t := s.setVm vm0) hZ hS'.1
  have hown' : T'.vm.findClass own = some m.cls := by
    have q := hS'.1.alike.findClass (name := own)
    exact (q _).trans hown
  exact Go.go (fun t q => st'.trans q) (k v T' _ L T'.vm ⟨T'.heap.size, _, X', N.app f1, rfl, O.keep f2 (fun x hx => (hws x hx).1), K.trans f2 (fun x hx => (hws x hx).2), hx, hby, hml, hret, hlk, hown', hnm, hZ', hS.trans hS' (Nat.le_trans hk (by rw [← eT]; exact hg')), Nat.le_refl _, hC.trans hC', hEW, KnP.alike hKn hS'.1.alike, hsh⟩ hq f2 hC')
theorem o_ldcC {index : Nat} {text : String} {n : Nat} {vs : List Value} {z : Int32} (X : Here p l e R s m args below meth c Z bytes maxL ret own nm h0 n0 ws EL kn T h vm0 cells slots) (w : (Cond.stringLink own index text).before a0 Z = true) (wS : ∀ a ∈ Bundle.stringAtoms, a.before a0 Z = true) (hmem : (own, index) ∈ EL) (ht : (∀ c ∈ text.toList, c.toNat < 256) ∧ text.toList.map (fun c => Value.int (Jvm.Lit.byteI c.toNat.toUInt16)) = vs) (hz : ¬ z < 0) (hlz : z.toNatClampNeg = vs.length) (hd : decode bytes pc = .ok (.ldc index, 2)) (hp : pc + 2 = pc') (hn : 4 * text.toList.length ≤ n) (hbig : n ≤ 536870912) (hc : cells + 2 ≤ R.cells) (hl : slots + (n + 4) ≤ R.slots)
    (k : ∀ a b kb T' h' vm', Here p l e R s m args below meth c Z bytes maxL ret own nm h0 n0 ws EL kn T' h' vm' (cells + 2) (slots + (n + 4)) → Ext h h' → CHr Z EL vm0 h vm' h' → Exa Z h' a "java/lang/String" → Fld Z h' a "java/lang/String" "coder" "B" (.int 0) → Fld Z h' a "java/lang/String" "value" "[B" (.ref b) → Arv Z h' b kb .byte z vs (.int 0) → (∀ x, Safe Z EL vm' h' x → x ≠ a ∧ x ≠ b) → Go p.tables e below P (T'.setTop (mkF m pc' Ls (.ref a :: st)))) : Go p.tables e below P (T.setTop (mkF m pc Ls st)) := by
  obtain ⟨k0, locs, Y, N, eT, O, K, hx, hby, hml, hret, hlk, hown, hnm, hZ, hS, hk, hC, ⟨a1, hEW⟩, hKn, hsh⟩ := X
  subst hp
  obtain ⟨a, T', h', k1, b, kb, Y', e', E', hS', hk', hZ', hown', q1, q2, q3, q4, -, -, hC', -, q5, st'⟩ := ldcCH Y hx hZ hown w wS eT hS hk hEW hmem hC.1 ht hz hlz (g := mkF m pc Ls st) rfl (hb hby hd) hn hbig hc hl
  have hal : vm0.Alike T'.vm := hZ.alike.symm.trans hZ'.alike
  exact Go.go st' (k a b kb T' h' T'.vm ⟨k1, locs, Y', N, e', O.ext E', K.ext E', hx, hby, hml, hret, hlk, hown', hnm, hZ', hS', hk', hC.trans hC', ⟨a1, hEW⟩, KnP.alike hKn hal, hsh⟩ E' hC' q1 q2 q3 q4 q5)
theorem back_met {y : MethodName} {bytes' : ByteArray} {maxL' : Nat} {ret' : Option FieldType} {rm : Room} {len W : Nat} {as' : Array Value} {ws' sf' : List Addr} {Po : Option Value → Heap → Vm → Prop} (hM : Met l y bytes' maxL' ret' [] rm Z as' h n0 ws' EL kn sf' Po) (X : Here p l e R s m args below meth c Z bytes maxL ret own nm h0 n0 ws EL kn T h vm0 cells slots) (wc : (Cond.code y bytes' maxL' ret').before a0 Z = true) (wz : (Cond.initialized y.cls).before a0 Z = true) (hf : rm.frames + 1 ≤ R.frames) (hl : W + (maxL' + 11) + rm.locals ≤ R.locals) (hsf : ∀ x ∈ sf', x < h.size ∧ Safe Z EL vm0 h x) :
    BackS l R p e below (s.setVm vm0) args y len W (fun A a => a = as' ∧ A.U.heap = h ∧ A.cells + rm.cells ≤ R.cells ∧ A.slots + rm.slots ≤ R.slots) (fun A _ v B => ∃ L, QQ h n0 ws' Po v B.U.heap B.U.vm L ∧ B.locs = A.locs ++ L ∧ B.cells = A.cells + rm.cells ∧ B.slots = A.slots + rm.slots ∧ CHr Z EL vm0 h B.U.vm B.U.heap) := by
  obtain ⟨k0, locs, Y, N, eT, O, K, hx, hby, hml, hret, hlk, hown, hnm, hZ, hS, hk, hC, ⟨a1, hEW⟩, hKn, hsh⟩ := X
  refine BackS.of_freeWG (s := s.setVm vm0) (bytes := bytes') (maxL := maxL') (ret := ret') (E := fun _ first o t L k n => k = rm.cells ∧ n = rm.slots ∧ (∃ v, o = .returned v ∧ QQ h n0 ws' Po v t.heap t.vm L) ∧ CHr Z EL first.vm first.heap t.vm t.heap) hM hf hl ?_ ?_ ?_ ?_ ?_
  · intro m meth c A a Y hp
    have hU : Z.Warmed39 A.U.vm := wtrans (s := s.setVm vm0) hZ Y.warmed
    exact ⟨by show (Cond.and _ .tt).before a A.U = true; rw [Cond.before_and, mv hU wc]; rfl, mv hU wc, mv hU wz, hp.2.2.1, hp.2.2.2⟩
  · intro m meth c A a g mk Y hp
    have c1 := CHv.at Y hZ hEW hC.1
    exact ⟨hp.1, wtrans (s := s.setVm vm0) hZ Y.warmed, hp.2.1, c1.1, fun x hx => c1.safe (hsf x hx).1 (hsf x hx).2⟩
  · intro m meth c A a g mk Y _ hg q
    exact known_frames Y hg (hKn q).1 (hKn q).2
  · rintro _ _ _ _ ⟨v, L, h1, h2, h3, h4⟩
    exact ⟨L, _, _, h4, rfl, rfl, ⟨v, h1, h2⟩, h3⟩
  · rintro m meth c A a g mk v t L k n Y hp _ _ ⟨e1, e2, ⟨v', e3, e4⟩, e5⟩
    cases e3; subst e1 e2
    refine ⟨L, e4, rfl, rfl, rfl, (CHv.at Y hZ hEW hC.1).trans ?_⟩
    rw [← hp.2.1]; exact e5
theorem nf_sel {C : String} {y : MethodName} (w : (Cond.selects C y y).before a0 Z = true) : ∀ s' : State, Z.Warmed39 s'.vm → NotFace s' y := fun s' hz => notFace_of_selects (args := #[]) (mvT hz w)
theorem qq_fr {ws' : List Addr} {Po : Option Value → Heap → Vm → Prop} : ∀ v h' vm' L, QQ h n0 ws' Po v h' vm' L → Fr n0 L ∧ Keep h h' ws' := fun _ _ _ _ q => ⟨q.1, q.2.1⟩
theorem nP (cap : Nat) {aty : ArrayType} {n : Int32} {ad : String} (X : Here p l e R s m args below meth c Z bytes maxL ret own nm h0 n0 ws EL kn T h vm0 cells slots) (w : (Cond.arrayClass (newarray.typeOf aty)).before a0 Z = true) (hd : decode bytes pc = .ok (.newarray aty, 2)) (hp : pc + 2 = pc') (hq : ¬ n < 0 ∧ n.toNatClampNeg ≤ cap ∧ cap * 8 ≤ 536870912 ∧ cells + 1 ≤ R.cells ∧ slots + cap ≤ R.slots) (had : "[" ++ (newarray.typeOf aty).toString = ad)
    (k : ∀ T' h' b ka, Here p l e R s m args below meth c Z bytes maxL ret own nm h0 n0 ws EL kn T' h' vm0 (cells + 1) (slots + cap) → b = h.size → b < h'.size → Ext h h' → Arv Z h' b ka (newarray.typeOf aty) n [] (defaultValue (newarray.typeOf aty)) → Exa Z h' b ad → CHr Z EL vm0 h vm0 h' → Safe Z EL vm0 h' b → Go p.tables e below P (T'.setTop (mkF m pc' Ls (.ref b :: st)))) : Go p.tables e below P (T.setTop (mkF m pc Ls (.int n :: st))) := o_newP pc' X w hd hp hq.1 hq.2.1 hq.2.2.1 hq.2.2.2.1 hq.2.2.2.2 had k
theorem had_byte : "[" ++ (newarray.typeOf .byte).toString = "[B" := by decide +kernel
theorem had_char : "[" ++ (newarray.typeOf .char).toString = "[C" := by decide +kernel
theorem sC (i : Nat) (y : Int32) {a : Addr} {ka : ClassId} {n j x : Int32} {vs : List Value} {d : Value} (X : Here p l e R s m args below meth c Z bytes maxL ret own nm h0 n0 ws EL kn T h vm0 cells slots) (F : Arv Z h a ka .char n vs d) (hj : (¬ j < 0 ∧ j < n) ∧ j.toNatClampNeg = i) (hil : i < vs.length) (hv : nar .char x = y) (hd : decode bytes pc = .ok (.castore, 1)) (hp : pc + 1 = pc') (hn0 : n0 ≤ a) (hws : a ∈ ws ∨ h0.size ≤ a) (hsf : Safe Z EL vm0 h a)
    (k : ∀ T' h', Here p l e R s m args below meth c Z bytes maxL ret own nm h0 n0 ws EL kn T' h' vm0 cells slots → (∃ sl w, Wr h h' a sl w) → CHr Z EL vm0 h vm0 h' → Arv Z h' a ka .char n (vs.set i (.int y)) d → Go p.tables e below P (T'.setTop (mkF m pc' Ls st))) : Go p.tables e below P (T.setTop (mkF m pc Ls (.int x :: .int j :: .ref a :: st))) := o_stC pc' X F hj.1 hj.2 hil hv hd hp hn0 hws hsf k
theorem sB (i : Nat) (y : Int32) {a : Addr} {ka : ClassId} {n j x : Int32} {vs : List Value} {d : Value} (X : Here p l e R s m args below meth c Z bytes maxL ret own nm h0 n0 ws EL kn T h vm0 cells slots) (F : Arv Z h a ka .byte n vs d) (hj : (¬ j < 0 ∧ j < n) ∧ j.toNatClampNeg = i) (hil : i < vs.length) (hv : nar .byte x = y) (hd : decode bytes pc = .ok (.bastore, 1)) (hp : pc + 1 = pc') (hn0 : n0 ≤ a) (hws : a ∈ ws ∨ h0.size ≤ a) (hsf : Safe Z EL vm0 h a)
    (k : ∀ T' h', Here p l e R s m args below meth c Z bytes maxL ret own nm h0 n0 ws EL kn T' h' vm0 cells slots → (∃ sl w, Wr h h' a sl w) → CHr Z EL vm0 h vm0 h' → Arv Z h' a ka .byte n (vs.set i (.int y)) d → Go p.tables e below P (T'.setTop (mkF m pc' Ls st))) : Go p.tables e below P (T.setTop (mkF m pc Ls (.int x :: .int j :: .ref a :: st))) := o_stB pc' X F hj.1 hj.2 hil hv hd hp hn0 hws hsf k
def WS_static (Z : State) (a0 : Array Value) (own : String) (index : Nat) (y : MethodName) (bytes' : ByteArray) (maxL' : Nat) (ret' : Option FieldType) (an : Nat) : Prop := ((Cond.methodLink own index y).before a0 Z = true) ∧ ((Cond.static y).before a0 Z = true) ∧ ((Cond.initialized y.cls).before a0 Z = true) ∧ ((Cond.code y bytes' maxL' ret').before a0 Z = true) ∧ (y.cls ≠ "java/lang/invoke/MethodHandle" ∧ y.cls ≠ "java/lang/invoke/VarHandle") ∧ (∀ sig, parseMethodDescriptor y.desc = some sig → an = sig.parameters.length)
theorem mS (W : Nat) {index : Nat} {y : MethodName} {bytes' : ByteArray} {maxL' : Nat} {ret' : Option FieldType} {rm : Room} {ws' sf' : List Addr} {argsL : List Value} {Po : Option Value → Heap → Vm → Prop} (X : Here p l e R s m args below meth c Z bytes maxL ret own nm h0 n0 ws EL kn T h vm0 cells slots) (hM : Old Z n0 h → Met l y bytes' maxL' ret' [] rm Z argsL.toArray h n0 ws' EL kn sf' Po) (hv : WS_static Z a0 own index y bytes' maxL' ret' argsL.length) (hsf : ∀ x ∈ sf', x < h.size ∧ Safe Z EL vm0 h x) (hd : decode bytes pc = .ok (.invokestatic index, 3)) (hp : pc + 3 = pc') (hsz : Ls.size = maxL) (hstk : st = argsL.reverse ++ rest) (hW : (rest.map fun v => v.category).sum ≤ W) (hr : rm.frames + 1 ≤ R.frames ∧ W + (maxL' + 11) + rm.locals ≤ R.locals ∧ cells + rm.cells ≤ R.cells ∧ slots + rm.slots ≤ R.slots) (hws : ∀ x ∈ ws', n0 ≤ x ∧ (x ∈ ws ∨ h0.size ≤ x))
    (k : ∀ v T' h' vm', Here p l e R s m args below meth c Z bytes maxL ret own nm h0 n0 ws EL kn T' h' vm' (cells + rm.cells) (slots + rm.slots) → Po v h' vm' → Keep h h' ws' → h.size ≤ h'.size → CHr Z EL vm0 h vm' h' → Go p.tables e below P (T'.setTop (mkF m pc' Ls (v.toList ++ rest)))) : Go p.tables e below P (T.setTop (mkF m pc Ls st)) := by
  obtain ⟨g0, g1, g2, g3, g4, g5⟩ := hv
  exact o_static pc' X g0 g1 g2 g3 g4 g5 (back_met (hM X.old) X g3 g2 hr.1 hr.2.1 hsf) hd hp hsz hstk hW hr.2.2.1 hr.2.2.2 qq_fr hws (fun v T' h' L vm' X' q K C => k v T' h' vm' X' q.2.2 K K.1 C)
def WS_special (Z : State) (a0 : Array Value) (own : String) (index : Nat) (y : MethodName) (bytes' : ByteArray) (maxL' : Nat) (an : Nat) : Prop := ((Cond.initialized y.cls).before a0 Z = true) ∧ (y.name = "<init>") ∧ ((Cond.methodLink own index y).before a0 Z = true) ∧ ((Cond.instanceMethod y).before a0 Z = true) ∧ ((Cond.code y bytes' maxL' none).before a0 Z = true) ∧ (y.cls ≠ "java/lang/invoke/MethodHandle" ∧ y.cls ≠ "java/lang/invoke/VarHandle") ∧ (∀ sig, parseMethodDescriptor y.desc = some sig → an = sig.parameters.length)
theorem mP (W : Nat) {b : Addr} {index : Nat} {y : MethodName} {bytes' : ByteArray} {maxL' : Nat} {rm : Room} {ws' sf' : List Addr} {argsL : List Value} {Po : Option Value → Heap → Vm → Prop} (X : Here p l e R s m args below meth c Z bytes maxL ret own nm h0 n0 ws EL kn T h vm0 cells slots) (hM : Old Z n0 h → Met l y bytes' maxL' none [] rm Z (.ref b :: argsL).toArray h n0 ws' EL kn sf' Po) (hv : WS_special Z a0 own index y bytes' maxL' argsL.length) (hsf : ∀ x ∈ sf', x < h.size ∧ Safe Z EL vm0 h x) (hd : decode bytes pc = .ok (.invokespecial index, 3)) (hp : pc + 3 = pc') (hsz : Ls.size = maxL) (hstk : st = argsL.reverse ++ .ref b :: rest) (hW : (rest.map fun v => v.category).sum ≤ W) (hr : rm.frames + 1 ≤ R.frames ∧ W + (maxL' + 11) + rm.locals ≤ R.locals ∧ cells + rm.cells ≤ R.cells ∧ slots + rm.slots ≤ R.slots) (hws : ∀ x ∈ ws', n0 ≤ x ∧ (x ∈ ws ∨ h0.size ≤ x))
    (k : ∀ v T' h' vm', Here p l e R s m args below meth c Z bytes maxL ret own nm h0 n0 ws EL kn T' h' vm' (cells + rm.cells) (slots + rm.slots) → Po v h' vm' → Keep h h' ws' → h.size ≤ h'.size → CHr Z EL vm0 h vm' h' → Go p.tables e below P (T'.setTop (mkF m pc' Ls (v.toList ++ rest)))) : Go p.tables e below P (T.setTop (mkF m pc Ls st)) := by
  obtain ⟨gz, g0, g1, g2, g3, g4, g5⟩ := hv
  exact o_special pc' X g0 g1 g2 g3 g4 g5 (back_met (hM X.old) X g3 gz hr.1 hr.2.1 hsf) hd hp hsz hstk hW hr.2.2.1 hr.2.2.2 qq_fr hws (fun v T' h' L vm' X' q K C => k v T' h' vm' X' q.2.2 K K.1 C)
def WS_virtual (Z : State) (a0 : Array Value) (own : String) (index : Nat) (C : String) (y z : MethodName) (bytes' : ByteArray) (maxL' : Nat) (ret' : Option FieldType) (an : Nat) : Prop := ((Cond.code z bytes' maxL' ret').before a0 Z = true) ∧ ((Cond.initialized z.cls).before a0 Z = true) ∧ ((Cond.methodLink own index y).before a0 Z = true) ∧ ((Cond.declares y).before a0 Z = true) ∧ ((Cond.selects C y z).before a0 Z = true) ∧ ((Cond.instanceMethod z).before a0 Z = true) ∧ (∀ s' : State, Z.Warmed39 s'.vm → NotFace s' y) ∧ (y.cls ≠ "java/lang/invoke/MethodHandle" ∧ y.cls ≠ "java/lang/invoke/VarHandle") ∧ (∀ sig, parseMethodDescriptor y.desc = some sig → an = sig.parameters.length)
theorem mV (W : Nat) {b : Addr} {index : Nat} {C : String} {y z : MethodName} {bytes' : ByteArray} {maxL' : Nat} {ret' : Option FieldType} {rm : Room} {ws' sf' : List Addr} {argsL : List Value} {Po : Option Value → Heap → Vm → Prop} (X : Here p l e R s m args below meth c Z bytes maxL ret own nm h0 n0 ws EL kn T h vm0 cells slots) (E : Exa Z h b C) (hM : Old Z n0 h → Met l z bytes' maxL' ret' [] rm Z (.ref b :: argsL).toArray h n0 ws' EL kn sf' Po) (hv : WS_virtual Z a0 own index C y z bytes' maxL' ret' argsL.length) (hsf : ∀ x ∈ sf', x < h.size ∧ Safe Z EL vm0 h x) (hd : decode bytes pc = .ok (.invokevirtual index, 3)) (hp : pc + 3 = pc') (hsz : Ls.size = maxL) (hstk : st = argsL.reverse ++ .ref b :: rest) (hW : (rest.map fun v => v.category).sum ≤ W) (hr : rm.frames + 1 ≤ R.frames ∧ W + (maxL' + 11) + rm.locals ≤ R.locals ∧ cells + rm.cells ≤ R.cells ∧ slots + rm.slots ≤ R.slots) (hws : ∀ x ∈ ws', n0 ≤ x ∧ (x ∈ ws ∨ h0.size ≤ x))
    (k : ∀ v T' h' vm', Here p l e R s m args below meth c Z bytes maxL ret own nm h0 n0 ws EL kn T' h' vm' (cells + rm.cells) (slots + rm.slots) → Po v h' vm' → Keep h h' ws' → h.size ≤ h'.size → CHr Z EL vm0 h vm' h' → Go p.tables e below P (T'.setTop (mkF m pc' Ls (v.toList ++ rest)))) : Go p.tables e below P (T.setTop (mkF m pc Ls st)) := by
  obtain ⟨gc, gz, g0, g1, g2, g3, g4, g5, g6⟩ := hv
  exact o_virtual pc' X E g0 g1 g2 g3 g4 g5 g6 (back_met (hM X.old) X gc gz hr.1 hr.2.1 hsf) hd hp hsz hstk hW hr.2.2.1 hr.2.2.2 qq_fr hws (fun v T' h' L vm' X' q K C => k v T' h' vm' X' q.2.2 K K.1 C)
def WS_super (Z : State) (a0 : Array Value) (own : String) (index : Nat) (y : MethodName) (bytes' : ByteArray) (maxL' : Nat) (ret' : Option FieldType) (C : String) (an : Nat) : Prop := ((Cond.initialized y.cls).before a0 Z = true) ∧ ((Cond.methodLink own index y).before a0 Z = true) ∧ ((Cond.sameMethod y.cls y.cls y.name y.desc).before a0 Z = true) ∧ ((Cond.instanceMethod y).before a0 Z = true) ∧ ((Cond.superclass own y.cls).before a0 Z = true) ∧ (y.name ≠ "<init>") ∧ ((Cond.code y bytes' maxL' ret').before a0 Z = true) ∧ (∀ sig, parseMethodDescriptor y.desc = some sig → an = sig.parameters.length)
theorem mU (W : Nat) {b : Addr} {index : Nat} {y : MethodName} {bytes' : ByteArray} {maxL' : Nat} {ret' : Option FieldType} {C : String} {rm : Room} {ws' sf' : List Addr} {argsL : List Value} {Po : Option Value → Heap → Vm → Prop} (X : Here p l e R s m args below meth c Z bytes maxL ret own nm h0 n0 ws EL kn T h vm0 cells slots) (E : Exa Z h b C) (hM : Old Z n0 h → Met l y bytes' maxL' ret' [] rm Z (.ref b :: argsL).toArray h n0 ws' EL kn sf' Po) (hv : WS_super Z a0 own index y bytes' maxL' ret' C argsL.length) (hsf : ∀ x ∈ sf', x < h.size ∧ Safe Z EL vm0 h x) (hd : decode bytes pc = .ok (.invokespecial index, 3)) (hp : pc + 3 = pc') (hsz : Ls.size = maxL) (hstk : st = argsL.reverse ++ .ref b :: rest) (hW : (rest.map fun v => v.category).sum ≤ W) (hr : rm.frames + 1 ≤ R.frames ∧ W + (maxL' + 11) + rm.locals ≤ R.locals ∧ cells + rm.cells ≤ R.cells ∧ slots + rm.slots ≤ R.slots) (hws : ∀ x ∈ ws', n0 ≤ x ∧ (x ∈ ws ∨ h0.size ≤ x))
    (k : ∀ v T' h' vm', Here p l e R s m args below meth c Z bytes maxL ret own nm h0 n0 ws EL kn T' h' vm' (cells + rm.cells) (slots + rm.slots) → Po v h' vm' → Keep h h' ws' → h.size ≤ h'.size → CHr Z EL vm0 h vm' h' → Go p.tables e below P (T'.setTop (mkF m pc' Ls (v.toList ++ rest)))) : Go p.tables e below P (T.setTop (mkF m pc Ls st)) := by
  obtain ⟨gz, g0, g1, g2, g3, g4, g5, g6⟩ := hv
  exact o_super pc' X E g0 g1 g2 g3 g4 g5 g6 (back_met (hM X.old) X g5 gz hr.1 hr.2.1 hsf) hd hp hsz hstk hW hr.2.2.1 hr.2.2.2 qq_fr hws (fun v T' h' L vm' X' q K C => k v T' h' vm' X' q.2.2 K K.1 C)
def BI (y : MethodName) (own nm : String) : Prop := plainFor y = true ∧ y.cls = own ∧ y.name = nm
theorem mi {y : MethodName} {wl : List Cond} {as' : Array Value} {Po : Option Value → Heap → Vm → Prop} (hB : BI y own nm) (hef : ∀ m, entryFrame m as' maxL = mkF m 0 Ls []) (hew : EW Z a0 EL)
    (body : ∀ {p e m below meth c s₁} s, Here p l e R s m as' below meth c Z bytes maxL ret own nm h0 n0 ws EL kn s₁ h0 s.vm 0 0 → (∀ x ∈ sf, Safe Z EL s.vm h0 x) → n0 ≤ h0.size → Go p.tables e below (PO s R h0 n0 ws Z EL Po) (s₁.setTop (mkF m 0 Ls []))) : Old Z n0 h0 → Met l y bytes maxL ret wl R Z as' h0 n0 ws EL kn sf Po := fun O =>
  met_intro hB.1 hB.2.1 hB.2.2 O hew fun p e s m below meth c s₁ X hs => Go.cast (hef m) (body s X hs X.n0le)
theorem sx {a : Addr} {C : String} (X : Here p l e R s m args below meth c Z bytes maxL ret own nm h0 n0 ws EL kn T h vm0 cells slots) (E : Exa Z h a C) (q : C ≠ "java/lang/String" ∧ C ≠ "[B") : Safe Z EL vm0 h a := Safe.exa X.al E q.1 q.2
theorem sS {a : Addr} {L : List Addr} (q1 : h.size > a) (q2 : Safe Z EL vm0 h a) (r : ∀ x ∈ L, x < h.size ∧ Safe Z EL vm0 h x) : ∀ x ∈ a :: L, x < h.size ∧ Safe Z EL vm0 h x := allS ⟨q1, q2⟩ r
theorem aI {a : Addr} {L : List Addr} (q : n0 ≤ a) (q2 : a ∈ ws) (r : ∀ x ∈ L, n0 ≤ x ∧ (x ∈ ws ∨ h0.size ≤ x)) : ∀ x ∈ a :: L, n0 ≤ x ∧ (x ∈ ws ∨ h0.size ≤ x) := allS ⟨q, Or.inl q2⟩ r
theorem aR {a : Addr} {L : List Addr} (q : n0 ≤ a ∧ h0.size ≤ a) (r : ∀ x ∈ L, n0 ≤ x ∧ (x ∈ ws ∨ h0.size ≤ x)) : ∀ x ∈ a :: L, n0 ≤ x ∧ (x ∈ ws ∨ h0.size ≤ x) := allS ⟨q.1, Or.inr q.2⟩ r
end Kit
end Jvm.OwnKit
namespace Jvm.OwnKit
open Sem ClassFile Op Lib Jvm.Stand Jvm.Free Jvm.LawKit Jvm.RoadKit
section Common
variable {Z : State} {h : Heap} {a0 : Array Value}
theorem own_ne {a b : Nat} (h : a < b ∨ b < a) : a ≠ b := fun q => by omega
theorem own_lt {a b : Nat} (h : b > a) : a < b := h
theorem own_sm {y c : Int32} (e : y.toUInt32.toUInt16.toUInt32.toInt32 = c) (h : ¬ (255 : Int32) < c) : ¬ c < 0 ∧ ¬ (255 : Int32) < c := by
  refine ⟨?_, h⟩
  subst e
  rw [Int32.lt_iff_toInt_lt]
  have e0 : (0 : Int32).toInt = 0 := rfl
  have t : (y.toUInt32.toUInt16.toUInt32.toInt32).toBitVec.toNat < 65536 := by
    show (y.toUInt32.toUInt16.toUInt32).toNat < 65536
    have := y.toUInt32.toUInt16.toNat_lt
    simpa using this
  have q : (y.toUInt32.toUInt16.toUInt32.toInt32).toInt = ((y.toUInt32.toUInt16.toUInt32.toInt32).toBitVec.toNat : Int) := by
    show (y.toUInt32.toUInt16.toUInt32.toInt32).toBitVec.toInt = _
    rw [BitVec.toInt_eq_toNat_of_lt (by omega)]
  omega
theorem own_idem {y c : Int32} (e : y.toUInt32.toUInt16.toUInt32.toInt32 = c) : c.toUInt32.toUInt16.toUInt32.toInt32 = c := by
  subst e
  have : ((y.toUInt32.toUInt16.toUInt32).toInt32).toUInt32 = y.toUInt32.toUInt16.toUInt32 := by simp
  rw [this]
  have t : (y.toUInt32.toUInt16.toUInt32).toUInt16 = y.toUInt32.toUInt16 := by
    apply UInt16.toNat_inj.mp
    have := y.toUInt32.toUInt16.toNat_lt
    rw [UInt32.toNat_toUInt16, UInt16.toNat_toUInt32]
    exact Nat.mod_eq_of_lt this
  rw [t]
theorem own_nc2 {y c : Int32} (e : y.toUInt32.toUInt16.toUInt32.toInt32 = c) : nar .char c = c := own_idem e
theorem own_b8 (x : BitVec 32) : ((x.setWidth 8).signExtend 32 &&& 255#32) = (x.setWidth 8).setWidth 32 := by
  apply BitVec.eq_of_getLsbD_eq
  intro i hi
  have h255 : (255#32).getLsbD i = decide (i < 8) := by
    rw [BitVec.getLsbD_ofNat]
    have : Nat.testBit 255 i = decide (i < 8) := Nat.testBit_two_pow_sub_one 8 i
    rw [this]; simp [hi]
  rw [BitVec.getLsbD_and, h255, BitVec.getLsbD_signExtend, BitVec.getLsbD_setWidth]
  by_cases h8 : i < 8 <;> simp [h8, hi]
theorem own_b8I (z : Int32) : (z.toInt8.toInt32 &&& (255 : Int32)).toBitVec.toNat = z.toBitVec.toNat % 256 := by
  have e : (z.toInt8.toInt32 &&& (255 : Int32)).toBitVec = (z.toBitVec.setWidth 8).setWidth 32 := by
    rw [Int32.toBitVec_and, Int8.toBitVec_toInt32, Int32.toBitVec_toInt8, BitVec.signExtend_eq_setWidth_of_le z.toBitVec (by decide)]; exact own_b8 z.toBitVec
  rw [e, BitVec.toNat_setWidth, BitVec.toNat_setWidth]
  omega
theorem own_gcE {c : Int32} (h : (255 : Int32) < c ∧ ¬ (65535 : Int32) < c) : ((((((c >>> ((0 : Int32) &&& 31)).toInt8.toInt32) &&& (255 : Int32)) <<< ((0 : Int32) &&& 31)) ||| (((((c >>> ((8 : Int32) &&& 31)).toInt8.toInt32) &&& (255 : Int32)) <<< ((8 : Int32) &&& 31)))).toUInt32.toUInt16.toUInt32.toInt32) = c := by
  obtain ⟨h1, h2⟩ := h
  rw [Int32.lt_iff_toInt_lt] at h1 h2
  have e1 : (255 : Int32).toInt = 255 := rfl
  have e2 : (65535 : Int32).toInt = 65535 := rfl
  have hc : c.toInt = (c.toBitVec.toNat : Int) := by
    show c.toBitVec.toInt = _
    have q := BitVec.toInt_eq_toNat_cond c.toBitVec
    have : 0 ≤ c.toBitVec.toInt := by show 0 ≤ c.toInt; omega
    split at q <;> omega
  have hn : c.toBitVec.toNat < 65536 := by omega
  have z0 : ((0 : Int32) &&& 31) = 0 := by decide
  have z8 : ((8 : Int32) &&& 31) = 8 := by decide
  rw [z0, z8]
  have s0 : c >>> (0 : Int32) = c := by
    apply Int32.toBitVec_inj.mp; rw [Int32.toBitVec_shiftRight]; simp
  have s8 : (c >>> (8 : Int32)).toBitVec.toNat = c.toBitVec.toNat / 256 := by
    rw [Int32.toBitVec_shiftRight]
    show (c.toBitVec.sshiftRight 8).toNat = _
    rw [BitVec.sshiftRight_eq_of_msb_false (by rw [BitVec.msb_eq_decide]; simp; omega)]
    rw [BitVec.toNat_ushiftRight, Nat.shiftRight_eq_div_pow]
  rw [s0]
  have A := own_b8I c
  have B := own_b8I (c >>> (8 : Int32))
  rw [s8] at B
  generalize hx : (c.toInt8.toInt32 &&& (255 : Int32)) = x at A ⊢
  generalize hy : ((c >>> (8 : Int32)).toInt8.toInt32 &&& (255 : Int32)) = y at B ⊢
  have l0 : x <<< (0 : Int32) = x := by
    apply Int32.toBitVec_inj.mp; rw [Int32.toBitVec_shiftLeft]; simp
  rw [l0]
  have l8 : (y <<< (8 : Int32)).toBitVec.toNat = 256 * y.toBitVec.toNat := by
    rw [Int32.toBitVec_shiftLeft]
    show (y.toBitVec <<< 8).toNat = _
    rw [BitVec.toNat_shiftLeft, Nat.shiftLeft_eq]; omega
  have o : (x ||| y <<< (8 : Int32)).toBitVec.toNat = c.toBitVec.toNat := by
    rw [Int32.toBitVec_or, BitVec.toNat_or, l8]
    have := Nat.two_pow_add_eq_or_of_lt (i := 8) (b := x.toBitVec.toNat) (by omega) y.toBitVec.toNat
    rw [Nat.or_comm, ← this]; omega
  have o2 : (x ||| y <<< (8 : Int32)) = c := Int32.toBitVec_inj.mp (BitVec.eq_of_toNat_eq o)
  rw [o2]
  apply Int32.toBitVec_inj.mp
  apply BitVec.eq_of_toNat_eq
  show (c.toUInt32.toUInt16.toUInt32).toNat = _
  rw [UInt16.toNat_toUInt32, UInt32.toNat_toUInt16]
  show c.toBitVec.toNat % _ = _
  omega
theorem own_le16 {y c : Int32} (e : y.toUInt32.toUInt16.toUInt32.toInt32 = c) : ¬ (65535 : Int32) < c := by
  subst e
  rw [Int32.lt_iff_toInt_lt]
  have e0 : (65535 : Int32).toInt = 65535 := rfl
  have t : (y.toUInt32.toUInt16.toUInt32.toInt32).toBitVec.toNat < 65536 := by
    show (y.toUInt32.toUInt16.toUInt32).toNat < 65536
    have := y.toUInt32.toUInt16.toNat_lt
    simpa using this
  have q : (y.toUInt32.toUInt16.toUInt32.toInt32).toInt = ((y.toUInt32.toUInt16.toUInt32.toInt32).toBitVec.toNat : Int) := by
    show (y.toUInt32.toUInt16.toUInt32.toInt32).toBitVec.toInt = _
    rw [BitVec.toInt_eq_toNat_of_lt (by omega)]
  omega
theorem own_narB (x : Int32) : nar .byte (x.toInt8.toInt32) = x.toInt8.toInt32 := by simp [nar]
theorem own_and3 (x : Int32) : x &&& 3 = 0 ∨ x &&& 3 = 1 ∨ x &&& 3 = 2 ∨ x &&& 3 = 3 := by
  obtain ⟨h1, h2⟩ := c_and x 3 (by decide)
  have e3 : (3 : Int32).toInt = 3 := by decide
  rw [e3] at h2
  have e0 : (0 : Int32).toInt = 0 := by decide
  have e1 : (1 : Int32).toInt = 1 := by decide
  have e2 : (2 : Int32).toInt = 2 := by decide
  rcases (by omega : (x &&& 3).toInt = 0 ∨ (x &&& 3).toInt = 1 ∨ (x &&& 3).toInt = 2 ∨ (x &&& 3).toInt = 3) with q | q | q | q
  · exact Or.inl (Int32.toInt_inj.mp (q.trans e0.symm))
  · exact Or.inr (Or.inl (Int32.toInt_inj.mp (q.trans e1.symm)))
  · exact Or.inr (Or.inr (Or.inl (Int32.toInt_inj.mp (q.trans e2.symm))))
  · exact Or.inr (Or.inr (Or.inr (Int32.toInt_inj.mp (q.trans e3.symm))))
def own_bs (cs : List Int32) : List Value := (cs.map (fun c => c.toInt8.toInt32)).map Value.int
end Common
end Jvm.OwnKit
namespace Jvm.OwnKit
open Sem ClassFile Op Lib Jvm.Stand Jvm.Free Jvm.LawKit Jvm.RoadKit
end Jvm.OwnKit
namespace Jvm.RoadKit
open Sem ClassFile Op Lib Jvm.Stand Jvm.Free Jvm.LawKit Jvm.OwnKit
section Squeeze
variable {Z : State} {h h' : Heap} {a b c d : Addr} {C n dd : String} {v w : Value} {sl : Nat} {k : ClassId} {ty : FieldType} {z : Int32} {vs : List Value} {dv : Value}
theorem Exa.l (F : Exa Z h a C) : @LT.lt Nat _ a h.size := F.lt
theorem Fld.l (F : Fld Z h a C n dd w) : @LT.lt Nat _ a h.size := F.lt
theorem Arv.l (F : Arv Z h a k ty z vs dv) : @LT.lt Nat _ a h.size := F.lt
theorem Fld.oth (F : Fld Z h b C n dd w) (W : Wr h h' a sl v) (q : @LT.lt Nat _ b a ∨ @LT.lt Nat _ a b) : Fld Z h' b C n dd w := Fld.other W F (Or.inl (own_ne q))
theorem Fld.k0 (F : Fld Z h b C n dd w) (K : Keep h h' []) : Fld Z h' b C n dd w := F.keep K nin0
theorem Fld.k1 (F : Fld Z h b C n dd w) (K : Keep h h' [a]) (q : @LT.lt Nat _ b a ∨ @LT.lt Nat _ a b) : Fld Z h' b C n dd w := F.keep K (ninS (own_ne q) nin0)
theorem Fld.k2 (F : Fld Z h b C n dd w) (K : Keep h h' [a, c]) (q : (@LT.lt Nat _ b a ∨ @LT.lt Nat _ a b) ∧ (@LT.lt Nat _ b c ∨ @LT.lt Nat _ c b)) : Fld Z h' b C n dd w := F.keep K (ninS (own_ne q.1) (ninS (own_ne q.2) nin0))
theorem Arv.oth (F : Arv Z h b k ty z vs dv) (W : Wr h h' a sl v) (q : @LT.lt Nat _ b a ∨ @LT.lt Nat _ a b) : Arv Z h' b k ty z vs dv := F.other W (own_ne q)
theorem Arv.k0 (F : Arv Z h b k ty z vs dv) (K : Keep h h' []) : Arv Z h' b k ty z vs dv := F.keep K nin0
theorem Arv.k1 (F : Arv Z h b k ty z vs dv) (K : Keep h h' [a]) (q : @LT.lt Nat _ b a ∨ @LT.lt Nat _ a b) : Arv Z h' b k ty z vs dv := F.keep K (ninS (own_ne q) nin0)
theorem Arv.k2 (F : Arv Z h b k ty z vs dv) (K : Keep h h' [a, c]) (q : (@LT.lt Nat _ b a ∨ @LT.lt Nat _ a b) ∧ (@LT.lt Nat _ b c ∨ @LT.lt Nat _ c b)) : Arv Z h' b k ty z vs dv := F.keep K (ninS (own_ne q.1) (ninS (own_ne q.2) nin0))
theorem Arv.as (F : Arv Z h b k ty z vs dv) (vs' : List Value) (q : vs = vs') : Arv Z h b k ty z vs' dv := q ▸ F
end Squeeze
end Jvm.RoadKit
namespace Jvm.OwnKit
open Sem ClassFile Op Lib Jvm.Stand Jvm.Free Jvm.LawKit Jvm.RoadKit
abbrev NE (a b : Addr) : Prop := Nat.succ a ≠ Nat.succ b
abbrev DC (c : ByteArray) (pc : Nat) (i : Instr) (n : Nat) : Prop := decode c pc = .ok (i, n)
abbrev i0 : Value := .int 0
abbrev uu : Slot := .unset
abbrev rr (a : Addr) : Slot := .val (.ref a)
abbrev ii (n : Int32) : Slot := .val (.int n)
theorem lr {n : Nat} : n ≤ n := Nat.le_refl n
theorem own_nes {x a b : Addr} (h : x ≠ a ∧ x ≠ b) : NE x a ∧ NE x b := ⟨fun q => h.1 (Nat.succ.inj q), fun q => h.2 (Nat.succ.inj q)⟩
theorem lb {a b : Nat} (h : Nat.ble (a + 1) b = true) : a < b := Nat.le_of_ble_eq_true h
theorem lenN {d : String} {n : Nat} {g : MethodDescriptor} (h : parseMethodDescriptor d = some g) (q : n = g.parameters.length) : ∀ sig, parseMethodDescriptor d = some sig → n = sig.parameters.length := fun sig e => by cases h.symm.trans e; exact q
theorem wm {α : Type _} {l : List α} {i : Nat} {a : α} (h : l[i]? = some a) : a ∈ l := List.mem_of_getElem? h
end Jvm.OwnKit

namespace Jvm.Pilot.@@N@@
open Jvm Jvm.ClassFile Sem Op Lib Jvm.Free Jvm.Stand Jvm.LawKit Jvm.RoadKit Bundle Jvm.Pilot.@@N@@.Jvm.D Jvm.OwnKit

theorem hws_str {a0 : Array Value} {Z : State} (hw : ∀ d ∈ tables_1, d.before a0 Z = true) : ∀ d ∈ Bundle.stringAtoms, d.before a0 Z = true := fun d hd => hw d ((by decide +kernel : ∀ d ∈ Bundle.stringAtoms, d ∈ tables_1) d hd)
theorem w_2 {a0 : Array Value} {Z : State} (hw : ∀ d ∈ tables_1, d.before a0 Z = true) : (Jvm.Cond.instantiable "java/lang/String" (4 : Nat)).before a0 Z = true := hw _ (List.mem_of_getElem? (i := 2) rfl)
theorem w_15 {a0 : Array Value} {Z : State} (hw : ∀ d ∈ tables_1, d.before a0 Z = true) : (Jvm.Cond.stringLink "java/lang/String" (7 : Nat) "").before a0 Z = true := hw _ (List.mem_of_getElem? (i := 15) rfl)
theorem w_16 {a0 : Array Value} {Z : State} (hw : ∀ d ∈ tables_1, d.before a0 Z = true) : (Jvm.Cond.arrayClass Jvm.ClassFile.FieldType.byte).before a0 Z = true := hw _ (List.mem_of_getElem? (i := 16) rfl)
theorem w_105 {a0 : Array Value} {Z : State} (hw : ∀ d ∈ tables_1, d.before a0 Z = true) : (Jvm.Cond.stringLink "com/example/web_whiteboard/webwhiteboard/context/ServletPattern" (61 : Nat) "/*").before a0 Z = true := hw _ (List.mem_of_getElem? (i := 105) rfl)
theorem w_152 {a0 : Array Value} {Z : State} (hw : ∀ d ∈ tables_1, d.before a0 Z = true) : (Jvm.Cond.initialized "com/example/web_whiteboard/webwhiteboard/context/ServletPattern$Kind").before a0 Z = true := hw _ (List.mem_of_getElem? (i := 152) rfl)
theorem w_153 {a0 : Array Value} {Z : State} (hw : ∀ d ∈ tables_1, d.before a0 Z = true) : (Jvm.Cond.laysStatic "com/example/web_whiteboard/webwhiteboard/context/ServletPattern$Kind" "PATH_PREFIX" "Lcom/example/web_whiteboard/webwhiteboard/context/ServletPattern$Kind;").before a0 Z = true := hw _ (List.mem_of_getElem? (i := 153) rfl)
section Walks
set_option maxRecDepth 65536
set_option maxHeartbeats 40000000
abbrev EL0 : List (String × Nat) := [("com/example/web_whiteboard/webwhiteboard/context/ServletPattern", 61), ("java/lang/String", 7)]
abbrev ex0 (Z : State) (h : Heap) (a : Addr) : Prop := Exa Z h a "[B"
abbrev ex1 (Z : State) (h : Heap) (a : Addr) : Prop := Exa Z h a "java/lang/String"
abbrev ex2 (Z : State) (h : Heap) (a : Addr) : Prop := Exa Z h a "[C"
abbrev ex3 (Z : State) (h : Heap) (a : Addr) : Prop := Exa Z h a "java/lang/StringBuilder"
abbrev ex4 (Z : State) (h : Heap) (a : Addr) : Prop := Exa Z h a "com/example/web_whiteboard/webwhiteboard/context/ServletPattern"
abbrev fd0 (Z : State) (h : Heap) (a : Addr) (v : Value) : Prop := Fld Z h a "java/lang/String" "value" "[B" v
abbrev fd1 (Z : State) (h : Heap) (a : Addr) (v : Value) : Prop := Fld Z h a "java/lang/String" "coder" "B" v
abbrev fd2 (Z : State) (h : Heap) (a : Addr) (v : Value) : Prop := Fld Z h a "com/example/web_whiteboard/webwhiteboard/context/ServletPattern" "pattern" "Ljava/lang/String;" v
abbrev fd3 (Z : State) (h : Heap) (a : Addr) (v : Value) : Prop := Fld Z h a "com/example/web_whiteboard/webwhiteboard/context/ServletPattern" "kind" "Lcom/example/web_whiteboard/webwhiteboard/context/ServletPattern$Kind;" v
abbrev fd4 (Z : State) (h : Heap) (a : Addr) (v : Value) : Prop := Fld Z h a "com/example/web_whiteboard/webwhiteboard/context/ServletPattern" "stem" "Ljava/lang/String;" v
abbrev fd5 (Z : State) (h : Heap) (a : Addr) (v : Value) : Prop := Fld Z h a "java/lang/AbstractStringBuilder" "value" "[B" v
abbrev fd6 (Z : State) (h : Heap) (a : Addr) (v : Value) : Prop := Fld Z h a "java/lang/AbstractStringBuilder" "coder" "B" v
abbrev fd7 (Z : State) (h : Heap) (a : Addr) (v : Value) : Prop := Fld Z h a "java/lang/AbstractStringBuilder" "count" "I" v
abbrev fd8 (Z : State) (h : Heap) (a : Addr) (v : Value) : Prop := Fld Z h a "java/lang/AbstractStringBuilder" "maybeLatin1" "Z" v
abbrev av0 (Z : State) (h : Heap) (a : Addr) (k : ClassId) (z : Int32) (vs : List Value) : Prop := Arv Z h a k .byte z vs (.int (0 : Int32))
abbrev av1 (Z : State) (h : Heap) (a : Addr) (k : ClassId) (z : Int32) (vs : List Value) : Prop := Arv Z h a k .char z vs (.int (0 : Int32))
abbrev MM (y : MethodName) (b : ByteArray) (m : Nat) (t : Option FieldType) (l : Launch) (Z : State) (f c s o : Nat) (as' : Array Value) (h0 : Heap) (n0 : Nat) (ws sf : List Addr) (Po : Option Value → Heap → Vm → Prop) : Prop := Old Z n0 h0 → Met l y b m t [] ⟨f, c, s, o⟩ Z as' h0 n0 ws EL0 false sf Po
abbrev GL (l : Launch) (Z : State) (a0 : Array Value) (zc : Int32) (fmt : Value) (kpp : Addr) : Prop := (∀ d ∈ tables_1, d.before a0 Z = true) ∧ (Sta Z Z.heap "java/lang/String" "COMPACT_STRINGS" "Z" (.int zc)) ∧ (¬ (zc = (0 : Int32))) ∧ (EW Z a0 EL0) ∧ (Sta Z Z.heap "jdk/internal/util/Preconditions" "SIOOBE_FORMATTER" "Ljava/util/function/BiFunction;" fmt) ∧ (fmt.isRef = true) ∧ (Sta Z Z.heap "com/example/web_whiteboard/webwhiteboard/context/ServletPattern$Kind" "PATH_PREFIX" "Lcom/example/web_whiteboard/webwhiteboard/context/ServletPattern$Kind;" (.ref kpp)) ∧ (Sta Z Z.heap "java/lang/StringUTF16" "$assertionsDisabled" "Z" (.int (1 : Int32))) ∧ (Sta Z Z.heap "java/lang/StringUTF16" "HI_BYTE_SHIFT" "I" (.int (0 : Int32))) ∧ (Sta Z Z.heap "java/lang/StringUTF16" "LO_BYTE_SHIFT" "I" (.int (8 : Int32)))
variable {l : Launch} {Z : State} {a0 : Array Value} {zc : Int32} {fmt : Value} {kpp : Addr}
section Words
variable (G : GL l Z a0 zc fmt kpp)
def sg5 := G.2.1
def hzc := G.2.2.1
def hEW := G.2.2.2.1
def sg0 := G.2.2.2.2.1
def hfmt := G.2.2.2.2.2.1
def sg1 := G.2.2.2.2.2.2.1
def sg4 := G.2.2.2.2.2.2.2.1
def sg2 := G.2.2.2.2.2.2.2.2.1
def sg3 := G.2.2.2.2.2.2.2.2.2
def w0 := G.1 _ (wm (i := 0) rfl)
def w1 := G.1 _ (wm (i := 1) rfl)
def w2 := G.1 _ (wm (i := 2) rfl)
def w3 := G.1 _ (wm (i := 3) rfl)
def w4 := G.1 _ (wm (i := 4) rfl)
def w5 := G.1 _ (wm (i := 5) rfl)
def w6 := G.1 _ (wm (i := 6) rfl)
def w7 := G.1 _ (wm (i := 7) rfl)
def w8 := G.1 _ (wm (i := 8) rfl)
def w9 := G.1 _ (wm (i := 9) rfl)
def w11 := G.1 _ (wm (i := 11) rfl)
def w12 := G.1 _ (wm (i := 12) rfl)
def w13 := G.1 _ (wm (i := 13) rfl)
def w14 := G.1 _ (wm (i := 14) rfl)
def w15 := G.1 _ (wm (i := 15) rfl)
def w16 := G.1 _ (wm (i := 16) rfl)
def w17 := G.1 _ (wm (i := 17) rfl)
def w18 := G.1 _ (wm (i := 18) rfl)
def w21 := G.1 _ (wm (i := 21) rfl)
def w22 := G.1 _ (wm (i := 22) rfl)
def w23 := G.1 _ (wm (i := 23) rfl)
def w24 := G.1 _ (wm (i := 24) rfl)
def w25 := G.1 _ (wm (i := 25) rfl)
def w26 := G.1 _ (wm (i := 26) rfl)
def w27 := G.1 _ (wm (i := 27) rfl)
def w28 := G.1 _ (wm (i := 28) rfl)
def w29 := G.1 _ (wm (i := 29) rfl)
def w30 := G.1 _ (wm (i := 30) rfl)
def w31 := G.1 _ (wm (i := 31) rfl)
def w32 := G.1 _ (wm (i := 32) rfl)
def w33 := G.1 _ (wm (i := 33) rfl)
def w34 := G.1 _ (wm (i := 34) rfl)
def w35 := G.1 _ (wm (i := 35) rfl)
def w36 := G.1 _ (wm (i := 36) rfl)
def w37 := G.1 _ (wm (i := 37) rfl)
def w38 := G.1 _ (wm (i := 38) rfl)
def w39 := G.1 _ (wm (i := 39) rfl)
def w40 := G.1 _ (wm (i := 40) rfl)
def w41 := G.1 _ (wm (i := 41) rfl)
def w42 := G.1 _ (wm (i := 42) rfl)
def w43 := G.1 _ (wm (i := 43) rfl)
def w44 := G.1 _ (wm (i := 44) rfl)
def w45 := G.1 _ (wm (i := 45) rfl)
def w46 := G.1 _ (wm (i := 46) rfl)
def w47 := G.1 _ (wm (i := 47) rfl)
def w50 := G.1 _ (wm (i := 50) rfl)
def w51 := G.1 _ (wm (i := 51) rfl)
def w52 := G.1 _ (wm (i := 52) rfl)
def w53 := G.1 _ (wm (i := 53) rfl)
def w54 := G.1 _ (wm (i := 54) rfl)
def w55 := G.1 _ (wm (i := 55) rfl)
def w56 := G.1 _ (wm (i := 56) rfl)
def w57 := G.1 _ (wm (i := 57) rfl)
def w58 := G.1 _ (wm (i := 58) rfl)
def w59 := G.1 _ (wm (i := 59) rfl)
def w60 := G.1 _ (wm (i := 60) rfl)
def w61 := G.1 _ (wm (i := 61) rfl)
def w62 := G.1 _ (wm (i := 62) rfl)
def w63 := G.1 _ (wm (i := 63) rfl)
def w64 := G.1 _ (wm (i := 64) rfl)
def w65 := G.1 _ (wm (i := 65) rfl)
def w67 := G.1 _ (wm (i := 67) rfl)
def w68 := G.1 _ (wm (i := 68) rfl)
def w69 := G.1 _ (wm (i := 69) rfl)
def w70 := G.1 _ (wm (i := 70) rfl)
def w71 := G.1 _ (wm (i := 71) rfl)
def w72 := G.1 _ (wm (i := 72) rfl)
def w73 := G.1 _ (wm (i := 73) rfl)
def w74 := G.1 _ (wm (i := 74) rfl)
def w75 := G.1 _ (wm (i := 75) rfl)
def w76 := G.1 _ (wm (i := 76) rfl)
def w77 := G.1 _ (wm (i := 77) rfl)
def w78 := G.1 _ (wm (i := 78) rfl)
def w79 := G.1 _ (wm (i := 79) rfl)
def w80 := G.1 _ (wm (i := 80) rfl)
def w81 := G.1 _ (wm (i := 81) rfl)
def w83 := G.1 _ (wm (i := 83) rfl)
def w84 := G.1 _ (wm (i := 84) rfl)
def w85 := G.1 _ (wm (i := 85) rfl)
def w86 := G.1 _ (wm (i := 86) rfl)
def w88 := G.1 _ (wm (i := 88) rfl)
def w89 := G.1 _ (wm (i := 89) rfl)
def w90 := G.1 _ (wm (i := 90) rfl)
def w91 := G.1 _ (wm (i := 91) rfl)
def w93 := G.1 _ (wm (i := 93) rfl)
def w94 := G.1 _ (wm (i := 94) rfl)
def w95 := G.1 _ (wm (i := 95) rfl)
def w96 := G.1 _ (wm (i := 96) rfl)
def w97 := G.1 _ (wm (i := 97) rfl)
def w98 := G.1 _ (wm (i := 98) rfl)
def w99 := G.1 _ (wm (i := 99) rfl)
def w100 := G.1 _ (wm (i := 100) rfl)
def w101 := G.1 _ (wm (i := 101) rfl)
def w102 := G.1 _ (wm (i := 102) rfl)
def w103 := G.1 _ (wm (i := 103) rfl)
def w104 := G.1 _ (wm (i := 104) rfl)
def w105 := G.1 _ (wm (i := 105) rfl)
def w106 := G.1 _ (wm (i := 106) rfl)
def w107 := G.1 _ (wm (i := 107) rfl)
def w108 := G.1 _ (wm (i := 108) rfl)
def w109 := G.1 _ (wm (i := 109) rfl)
def w110 := G.1 _ (wm (i := 110) rfl)
def w111 := G.1 _ (wm (i := 111) rfl)
def w112 := G.1 _ (wm (i := 112) rfl)
def w113 := G.1 _ (wm (i := 113) rfl)
def w114 := G.1 _ (wm (i := 114) rfl)
def w115 := G.1 _ (wm (i := 115) rfl)
def w116 := G.1 _ (wm (i := 116) rfl)
def w117 := G.1 _ (wm (i := 117) rfl)
def w118 := G.1 _ (wm (i := 118) rfl)
def w119 := G.1 _ (wm (i := 119) rfl)
def w120 := G.1 _ (wm (i := 120) rfl)
def w121 := G.1 _ (wm (i := 121) rfl)
def w122 := G.1 _ (wm (i := 122) rfl)
def w123 := G.1 _ (wm (i := 123) rfl)
def w124 := G.1 _ (wm (i := 124) rfl)
def w125 := G.1 _ (wm (i := 125) rfl)
def w126 := G.1 _ (wm (i := 126) rfl)
def w127 := G.1 _ (wm (i := 127) rfl)
def w128 := G.1 _ (wm (i := 128) rfl)
def w129 := G.1 _ (wm (i := 129) rfl)
def w130 := G.1 _ (wm (i := 130) rfl)
def w131 := G.1 _ (wm (i := 131) rfl)
def w132 := G.1 _ (wm (i := 132) rfl)
def w133 := G.1 _ (wm (i := 133) rfl)
def w134 := G.1 _ (wm (i := 134) rfl)
def w135 := G.1 _ (wm (i := 135) rfl)
def w136 := G.1 _ (wm (i := 136) rfl)
def w137 := G.1 _ (wm (i := 137) rfl)
def w138 := G.1 _ (wm (i := 138) rfl)
def w139 := G.1 _ (wm (i := 139) rfl)
def w140 := G.1 _ (wm (i := 140) rfl)
def w141 := G.1 _ (wm (i := 141) rfl)
def w142 := G.1 _ (wm (i := 142) rfl)
def w143 := G.1 _ (wm (i := 143) rfl)
def w144 := G.1 _ (wm (i := 144) rfl)
def w145 := G.1 _ (wm (i := 145) rfl)
def w146 := G.1 _ (wm (i := 146) rfl)
def w147 := G.1 _ (wm (i := 147) rfl)
def w148 := G.1 _ (wm (i := 148) rfl)
def w149 := G.1 _ (wm (i := 149) rfl)
def w150 := G.1 _ (wm (i := 150) rfl)
def w151 := G.1 _ (wm (i := 151) rfl)
def w154 := G.1 _ (wm (i := 154) rfl)
def w155 := G.1 _ (wm (i := 155) rfl)
def w156 := G.1 _ (wm (i := 156) rfl)
def w157 := G.1 _ (wm (i := 157) rfl)
def w158 := G.1 _ (wm (i := 158) rfl)
def w159 := G.1 _ (wm (i := 159) rfl)
def w160 := G.1 _ (wm (i := 160) rfl)
def w161 := G.1 _ (wm (i := 161) rfl)
def w162 := G.1 _ (wm (i := 162) rfl)
def w163 := G.1 _ (wm (i := 163) rfl)
def w164 := G.1 _ (wm (i := 164) rfl)
def w165 := G.1 _ (wm (i := 165) rfl)
def w166 := G.1 _ (wm (i := 166) rfl)
def w167 := G.1 _ (wm (i := 167) rfl)
def w168 := G.1 _ (wm (i := 168) rfl)
def w169 := G.1 _ (wm (i := 169) rfl)
def w170 := G.1 _ (wm (i := 170) rfl)
def w171 := G.1 _ (wm (i := 171) rfl)
def w172 := G.1 _ (wm (i := 172) rfl)
def w173 := G.1 _ (wm (i := 173) rfl)
def w174 := G.1 _ (wm (i := 174) rfl)
def w175 := G.1 _ (wm (i := 175) rfl)
def w176 := G.1 _ (wm (i := 176) rfl)
def w177 := G.1 _ (wm (i := 177) rfl)
def w178 := G.1 _ (wm (i := 178) rfl)
def w179 := G.1 _ (wm (i := 179) rfl)
def w180 := G.1 _ (wm (i := 180) rfl)
def w181 := G.1 _ (wm (i := 181) rfl)
def w182 := G.1 _ (wm (i := 182) rfl)
def w183 := G.1 _ (wm (i := 183) rfl)
def w184 := G.1 _ (wm (i := 184) rfl)
def w185 := G.1 _ (wm (i := 185) rfl)
def w186 := G.1 _ (wm (i := 186) rfl)
def w187 := G.1 _ (wm (i := 187) rfl)
def w188 := G.1 _ (wm (i := 188) rfl)
def w189 := G.1 _ (wm (i := 189) rfl)
def w190 := G.1 _ (wm (i := 190) rfl)
def w191 := G.1 _ (wm (i := 191) rfl)
def w192 := G.1 _ (wm (i := 192) rfl)
def w193 := G.1 _ (wm (i := 193) rfl)
def w194 := G.1 _ (wm (i := 194) rfl)
def w195 := G.1 _ (wm (i := 195) rfl)
def w196 := G.1 _ (wm (i := 196) rfl)
def w197 := G.1 _ (wm (i := 197) rfl)
def w198 := G.1 _ (wm (i := 198) rfl)
def w199 := G.1 _ (wm (i := 199) rfl)
def w200 := G.1 _ (wm (i := 200) rfl)
def w201 := G.1 _ (wm (i := 201) rfl)
def w202 := G.1 _ (wm (i := 202) rfl)
def w203 := G.1 _ (wm (i := 203) rfl)
def w204 := G.1 _ (wm (i := 204) rfl)
def w205 := G.1 _ (wm (i := 205) rfl)
def w206 := G.1 _ (wm (i := 206) rfl)
def w207 := G.1 _ (wm (i := 207) rfl)
def w208 := G.1 _ (wm (i := 208) rfl)
def w209 := G.1 _ (wm (i := 209) rfl)
def w210 := G.1 _ (wm (i := 210) rfl)
def w212 := G.1 _ (wm (i := 212) rfl)
def w213 := G.1 _ (wm (i := 213) rfl)
def w214 := G.1 _ (wm (i := 214) rfl)
def w215 := G.1 _ (wm (i := 215) rfl)
def w216 := G.1 _ (wm (i := 216) rfl)
def w217 := G.1 _ (wm (i := 217) rfl)
def w218 := G.1 _ (wm (i := 218) rfl)
def w219 := G.1 _ (wm (i := 219) rfl)
def w220 := G.1 _ (wm (i := 220) rfl)
def w221 := G.1 _ (wm (i := 221) rfl)
def w222 := G.1 _ (wm (i := 222) rfl)
def w223 := G.1 _ (wm (i := 223) rfl)
def w224 := G.1 _ (wm (i := 224) rfl)
def w225 := G.1 _ (wm (i := 225) rfl)
def w226 := G.1 _ (wm (i := 226) rfl)
def w227 := G.1 _ (wm (i := 227) rfl)
def w228 := G.1 _ (wm (i := 228) rfl)
def w229 := G.1 _ (wm (i := 229) rfl)
def w230 := G.1 _ (wm (i := 230) rfl)
def w231 := G.1 _ (wm (i := 231) rfl)
def w232 := G.1 _ (wm (i := 232) rfl)
def w233 := G.1 _ (wm (i := 233) rfl)
def w234 := G.1 _ (wm (i := 234) rfl)
def w235 := G.1 _ (wm (i := 235) rfl)
def w236 := G.1 _ (wm (i := 236) rfl)
def w237 := G.1 _ (wm (i := 237) rfl)
def w238 := G.1 _ (wm (i := 238) rfl)
theorem ef0 {x0 : Addr} {x1 : Int32} {x2 : Int32} (m : MethodId) : entryFrame m #[(.ref x0), (.int x1), (.int x2)] 3 = mkF m 0 #[.val (.ref x0), .val (.int x1), .val (.int x2)] [] := by simp [entryFrame, mkF, argsToLocals, Value.category, maxLocals]
theorem pn_java_lang_StringUTF16 : plainName "java/lang/StringUTF16" = true := by first | decide +kernel | (simp [plainName, overriddenIn]; done)
abbrev y0 : MethodName := ⟨"java/lang/StringUTF16", "putChar", "([BII)V"⟩
theorem B0 : BI y0 "java/lang/StringUTF16" "putChar" := ⟨(plainFor_of_name pn_java_lang_StringUTF16), rfl, rfl⟩
abbrev c0 := jdk_52_method_4_code
theorem d0_0 : DC c0 0 (.getstatic 44) 3 := by decide +kernel
theorem d0_3 : DC c0 3 (.ifCond .ne 25) 3 := by decide +kernel
theorem d0_28 : DC c0 28 (.iload_n 1) 1 := by decide +kernel
theorem d0_29 : DC c0 29 (.iconst 1) 1 := by decide +kernel
theorem d0_30 : DC c0 30 .ishl 1 := by decide +kernel
theorem d0_31 : DC c0 31 (.istore_n 1) 1 := by decide +kernel
theorem d0_32 : DC c0 32 (.aload_n 0) 1 := by decide +kernel
theorem d0_33 : DC c0 33 (.iload_n 1) 1 := by decide +kernel
theorem d0_34 : DC c0 34 (.iinc 1 1) 3 := by decide +kernel
theorem d0_37 : DC c0 37 (.iload_n 2) 1 := by decide +kernel
theorem d0_38 : DC c0 38 (.getstatic 59) 3 := by decide +kernel
theorem d0_41 : DC c0 41 .ishr 1 := by decide +kernel
theorem d0_42 : DC c0 42 .i2b 1 := by decide +kernel
theorem d0_43 : DC c0 43 .bastore 1 := by decide +kernel
theorem d0_44 : DC c0 44 (.aload_n 0) 1 := by decide +kernel
theorem d0_45 : DC c0 45 (.iload_n 1) 1 := by decide +kernel
theorem d0_46 : DC c0 46 (.iload_n 2) 1 := by decide +kernel
theorem d0_47 : DC c0 47 (.getstatic 63) 3 := by decide +kernel
theorem d0_50 : DC c0 50 .ishr 1 := by decide +kernel
theorem d0_51 : DC c0 51 .i2b 1 := by decide +kernel
theorem d0_52 : DC c0 52 .bastore 1 := by decide +kernel
theorem d0_53 : DC c0 53 .return_ 1 := by decide +kernel
abbrev M0 := MM y0 c0 3 none
theorem ef1 {x0 : Addr} {x1 : Int32} (m : MethodId) : entryFrame m #[(.ref x0), (.int x1)] 2 = mkF m 0 #[.val (.ref x0), .val (.int x1)] [] := by simp [entryFrame, mkF, argsToLocals, Value.category, maxLocals]
abbrev y1 : MethodName := ⟨"java/lang/StringUTF16", "getChar", "([BI)C"⟩
theorem B1 : BI y1 "java/lang/StringUTF16" "getChar" := ⟨(plainFor_of_name pn_java_lang_StringUTF16), rfl, rfl⟩
abbrev c1 := jdk_52_method_5_code
theorem d1_0 : DC c1 0 (.getstatic 44) 3 := by decide +kernel
theorem d1_3 : DC c1 3 (.ifCond .ne 25) 3 := by decide +kernel
theorem d1_28 : DC c1 28 (.iload_n 1) 1 := by decide +kernel
theorem d1_29 : DC c1 29 (.iconst 1) 1 := by decide +kernel
theorem d1_30 : DC c1 30 .ishl 1 := by decide +kernel
theorem d1_31 : DC c1 31 (.istore_n 1) 1 := by decide +kernel
theorem d1_32 : DC c1 32 (.aload_n 0) 1 := by decide +kernel
theorem d1_33 : DC c1 33 (.iload_n 1) 1 := by decide +kernel
theorem d1_34 : DC c1 34 (.iinc 1 1) 3 := by decide +kernel
theorem d1_37 : DC c1 37 .baload 1 := by decide +kernel
theorem d1_38 : DC c1 38 (.sipush 255) 3 := by decide +kernel
theorem d1_41 : DC c1 41 .iand 1 := by decide +kernel
theorem d1_42 : DC c1 42 (.getstatic 59) 3 := by decide +kernel
theorem d1_45 : DC c1 45 .ishl 1 := by decide +kernel
theorem d1_46 : DC c1 46 (.aload_n 0) 1 := by decide +kernel
theorem d1_47 : DC c1 47 (.iload_n 1) 1 := by decide +kernel
theorem d1_48 : DC c1 48 .baload 1 := by decide +kernel
theorem d1_49 : DC c1 49 (.sipush 255) 3 := by decide +kernel
theorem d1_52 : DC c1 52 .iand 1 := by decide +kernel
theorem d1_53 : DC c1 53 (.getstatic 63) 3 := by decide +kernel
theorem d1_56 : DC c1 56 .ishl 1 := by decide +kernel
theorem d1_57 : DC c1 57 .ior 1 := by decide +kernel
theorem d1_58 : DC c1 58 .i2c 1 := by decide +kernel
theorem d1_59 : DC c1 59 .ireturn 1 := by decide +kernel
abbrev M1 := MM y1 c1 2 (some .char)
theorem ef2 {x0 : Int32} {x1 : Int32} {x2 : Int32} (m : MethodId) : entryFrame m #[(.int x0), (.int x1), (.int x2)] maxLocals = mkF m 0 #[.val (.int x0), .val (.int x1), .val (.int x2), .unset, .unset, .unset, .unset, .unset, .unset, .unset] [] := by simp [entryFrame, mkF, argsToLocals, Value.category, maxLocals]
theorem pn_com_example_web_whiteboard_webwhiteboard_context_ServletPatternBelowPinLaw : plainName "com/example/web_whiteboard/webwhiteboard/context/ServletPatternBelowPinLaw" = true := by first | decide +kernel | (simp [plainName, overriddenIn]; done)
theorem B2 : BI x "com/example/web_whiteboard/webwhiteboard/context/ServletPatternBelowPinLaw" "law" := ⟨(plainFor_of_name pn_com_example_web_whiteboard_webwhiteboard_context_ServletPatternBelowPinLaw), rfl, rfl⟩
theorem fd_0 : parseFieldDescriptor "[B" = some (.array .byte) := by decide +kernel
theorem fd_1 : parseFieldDescriptor "B" = some .byte := by decide +kernel
theorem ef3 {x0 : Addr} {x1 : Addr} (m : MethodId) : entryFrame m #[(.ref x0), (.ref x1)] 2 = mkF m 0 #[.val (.ref x0), .val (.ref x1)] [] := by simp [entryFrame, mkF, argsToLocals, Value.category, maxLocals]
theorem pn_java_lang_String : plainName "java/lang/String" = true := by first | decide +kernel | (simp [plainName, overriddenIn]; done)
abbrev y2 : MethodName := ⟨"java/lang/String", "<init>", "([C)V"⟩
theorem B3 : BI y2 "java/lang/String" "<init>" := ⟨(plainFor_of_name pn_java_lang_String), rfl, rfl⟩
abbrev c3 := jdk_42_method_3_code
theorem d3_0 : DC c3 0 (.aload_n 0) 1 := by decide +kernel
theorem d3_1 : DC c3 1 (.aload_n 1) 1 := by decide +kernel
theorem d3_2 : DC c3 2 (.iconst 0) 1 := by decide +kernel
theorem d3_3 : DC c3 3 (.aload_n 1) 1 := by decide +kernel
theorem d3_4 : DC c3 4 .arraylength 1 := by decide +kernel
theorem d3_5 : DC c3 5 .aconst_null 1 := by decide +kernel
theorem d3_6 : DC c3 6 (.invokespecial 27) 3 := by decide +kernel
theorem ef4 {x0 : Addr} {x1 : Addr} {x2 : Int32} {x3 : Int32} (m : MethodId) : entryFrame m #[(.ref x0), (.ref x1), (.int x2), (.int x3), .null] 6 = mkF m 0 #[.val (.ref x0), .val (.ref x1), .val (.int x2), .val (.int x3), .val .null, .unset] [] := by simp [entryFrame, mkF, argsToLocals, Value.category, maxLocals]
abbrev y3 : MethodName := ⟨"java/lang/String", "<init>", "([CIILjava/lang/Void;)V"⟩
theorem B4 : BI y3 "java/lang/String" "<init>" := ⟨(plainFor_of_name pn_java_lang_String), rfl, rfl⟩
abbrev c4 := jdk_42_method_149_code
theorem d4_0 : DC c4 0 (.aload_n 0) 1 := by decide +kernel
theorem d4_1 : DC c4 1 (.invokespecial 1) 3 := by decide +kernel
theorem d4_4 : DC c4 4 (.iload_n 3) 1 := by decide +kernel
theorem d4_5 : DC c4 5 (.ifCond .ne 22) 3 := by decide +kernel
theorem d4_8 : DC c4 8 (.aload_n 0) 1 := by decide +kernel
theorem d4_9 : DC c4 9 (.ldc 7) 2 := by decide +kernel
theorem nc0 : "[C" ≠ "java/lang/String" ∧ "[C" ≠ "[B" := by decide +kernel
theorem d4_11 : DC c4 11 (.getfield 9) 3 := by decide +kernel
theorem d4_14 : DC c4 14 (.putfield 9) 3 := by decide +kernel
theorem d4_17 : DC c4 17 (.aload_n 0) 1 := by decide +kernel
theorem d4_18 : DC c4 18 (.ldc 7) 2 := by decide +kernel
theorem d4_20 : DC c4 20 (.getfield 15) 3 := by decide +kernel
theorem d4_23 : DC c4 23 (.putfield 15) 3 := by decide +kernel
def sn0 := slot_ne (Or.inr (w18 G)) (Or.inr (w17 G)) (by decide +kernel) (t := .byte) (t' := (.array .byte)) fd_1 fd_0
theorem d4_26 : DC c4 26 .return_ 1 := by decide +kernel
def sn1 := slot_ne (Or.inr (w17 G)) (Or.inr (w18 G)) (by decide +kernel) (t := (.array .byte)) (t' := .byte) fd_0 fd_1
abbrev M4 := MM y3 c4 6 none
theorem pd_0 : parseMethodDescriptor "([CIILjava/lang/Void;)V" = some ⟨[(.array .char), .int, .int, (.object "java/lang/Void")], none⟩ := by decide +kernel
def u0 : WS_special Z a0 "java/lang/String" 27 y3 c4 6 4 := ⟨(w3 G), rfl, (w8 G), (w9 G), (w11 G), by decide +kernel, lenN pd_0 rfl⟩
theorem d3_9 : DC c3 9 .return_ 1 := by decide +kernel
abbrev M3 := MM y2 c3 2 none
theorem pd_1 : parseMethodDescriptor "([C)V" = some ⟨[(.array .char)], none⟩ := by decide +kernel
def u1 : WS_special Z a0 "com/example/web_whiteboard/webwhiteboard/context/ServletPatternBelowPinLaw" 10 y2 c3 2 1 := ⟨(w3 G), rfl, (w5 G), (w6 G), (w7 G), by decide +kernel, lenN pd_1 rfl⟩
theorem d4_27 : DC c4 27 (.getstatic 38) 3 := by decide +kernel
theorem d4_30 : DC c4 30 (.ifCond .eq 28) 3 := by decide +kernel
theorem d4_33 : DC c4 33 (.aload_n 1) 1 := by decide +kernel
theorem d4_34 : DC c4 34 (.iload_n 2) 1 := by decide +kernel
theorem d4_35 : DC c4 35 (.iload_n 3) 1 := by decide +kernel
theorem d4_36 : DC c4 36 (.invokestatic 177) 3 := by decide +kernel
theorem ef5 {x0 : Addr} {x1 : Int32} {x2 : Int32} (m : MethodId) : entryFrame m #[(.ref x0), (.int x1), (.int x2)] 6 = mkF m 0 #[.val (.ref x0), .val (.int x1), .val (.int x2), .unset, .unset, .unset] [] := by simp [entryFrame, mkF, argsToLocals, Value.category, maxLocals]
abbrev y4 : MethodName := ⟨"java/lang/StringUTF16", "compress", "([CII)[B"⟩
theorem B5 : BI y4 "java/lang/StringUTF16" "compress" := ⟨(plainFor_of_name pn_java_lang_StringUTF16), rfl, rfl⟩
abbrev c5 := jdk_52_method_16_code
theorem d5_0 : DC c5 0 (.iload_n 2) 1 := by decide +kernel
theorem d5_1 : DC c5 1 (.newarray .byte) 2 := by decide +kernel
theorem d5_3 : DC c5 3 (.astore_n 3) 1 := by decide +kernel
theorem d5_4 : DC c5 4 (.aload_n 0) 1 := by decide +kernel
theorem d5_5 : DC c5 5 (.iload_n 1) 1 := by decide +kernel
theorem d5_6 : DC c5 6 (.aload_n 3) 1 := by decide +kernel
theorem d5_7 : DC c5 7 (.iconst 0) 1 := by decide +kernel
theorem d5_8 : DC c5 8 (.iload_n 2) 1 := by decide +kernel
theorem d5_9 : DC c5 9 (.invokestatic 115) 3 := by decide +kernel
theorem ef6 {x0 : Addr} {x1 : Int32} {x2 : Addr} {x3 : Int32} {x4 : Int32} (m : MethodId) : entryFrame m #[(.ref x0), (.int x1), (.ref x2), (.int x3), (.int x4)] 7 = mkF m 0 #[.val (.ref x0), .val (.int x1), .val (.ref x2), .val (.int x3), .val (.int x4), .unset, .unset] [] := by simp [entryFrame, mkF, argsToLocals, Value.category, maxLocals]
abbrev y5 : MethodName := ⟨"java/lang/StringUTF16", "compress", "([CI[BII)I"⟩
theorem B6 : BI y5 "java/lang/StringUTF16" "compress" := ⟨(plainFor_of_name pn_java_lang_StringUTF16), rfl, rfl⟩
abbrev c6 := jdk_52_method_21_code
theorem d6_0 : DC c6 0 (.iconst 0) 1 := by decide +kernel
theorem d6_1 : DC c6 1 (.istore 5) 2 := by decide +kernel
theorem d6_3 : DC c6 3 (.iload 5) 2 := by decide +kernel
theorem d6_5 : DC c6 5 (.iload 4) 2 := by decide +kernel
theorem d6_7 : DC c6 7 (.if_icmp .ge 37) 3 := by decide +kernel
theorem d6_10 : DC c6 10 (.aload_n 0) 1 := by decide +kernel
theorem d6_11 : DC c6 11 (.iload_n 1) 1 := by decide +kernel
theorem d6_12 : DC c6 12 .caload 1 := by decide +kernel
theorem d6_13 : DC c6 13 (.istore 6) 2 := by decide +kernel
theorem d6_15 : DC c6 15 (.iload 6) 2 := by decide +kernel
theorem d6_17 : DC c6 17 (.sipush 255) 3 := by decide +kernel
theorem d6_20 : DC c6 20 (.if_icmp .le 6) 3 := by decide +kernel
theorem d6_26 : DC c6 26 (.aload_n 2) 1 := by decide +kernel
theorem d6_27 : DC c6 27 (.iload_n 3) 1 := by decide +kernel
theorem d6_28 : DC c6 28 (.iload 6) 2 := by decide +kernel
theorem d6_30 : DC c6 30 .i2b 1 := by decide +kernel
theorem d6_31 : DC c6 31 .bastore 1 := by decide +kernel
theorem d6_32 : DC c6 32 (.iinc 1 1) 3 := by decide +kernel
theorem d6_35 : DC c6 35 (.iinc 3 1) 3 := by decide +kernel
theorem d6_38 : DC c6 38 (.iinc 5 1) 3 := by decide +kernel
theorem d6_41 : DC c6 41 (.goto (-38)) 3 := by decide +kernel
theorem d6_44 : DC c6 44 (.iload 4) 2 := by decide +kernel
theorem d6_46 : DC c6 46 .ireturn 1 := by decide +kernel
abbrev M6 := MM y5 c6 7 (some .int)
theorem pd_2 : parseMethodDescriptor "([CI[BII)I" = some ⟨[(.array .char), .int, (.array .byte), .int, .int], (some .int)⟩ := by decide +kernel
def u2 : WS_static Z a0 "java/lang/StringUTF16" 115 y5 c6 7 (some .int) 5 := ⟨(w28 G), (w29 G), (w26 G), (w30 G), by decide +kernel, lenN pd_2 rfl⟩
theorem d5_12 : DC c5 12 (.istore 4) 2 := by decide +kernel
theorem d5_14 : DC c5 14 (.iload 4) 2 := by decide +kernel
theorem d5_16 : DC c5 16 (.iload_n 2) 1 := by decide +kernel
theorem d5_17 : DC c5 17 (.if_icmp .eq 40) 3 := by decide +kernel
theorem d5_57 : DC c5 57 (.aload_n 3) 1 := by decide +kernel
theorem d5_58 : DC c5 58 .areturn 1 := by decide +kernel
abbrev M5 := MM y4 c5 6 (some (.array .byte))
theorem pd_3 : parseMethodDescriptor "([CII)[B" = some ⟨[(.array .char), .int, .int], (some (.array .byte))⟩ := by decide +kernel
def u3 : WS_static Z a0 "java/lang/String" 177 y4 c5 6 (some (.array .byte)) 3 := ⟨(w24 G), (w25 G), (w26 G), (w27 G), by decide +kernel, lenN pd_3 rfl⟩
theorem d4_39 : DC c4 39 (.astore 5) 2 := by decide +kernel
theorem d4_41 : DC c4 41 (.aload_n 0) 1 := by decide +kernel
theorem d4_42 : DC c4 42 (.aload 5) 2 := by decide +kernel
theorem d4_44 : DC c4 44 (.iload_n 3) 1 := by decide +kernel
theorem d4_45 : DC c4 45 (.invokestatic 47) 3 := by decide +kernel
abbrev y6 : MethodName := ⟨"java/lang/StringUTF16", "coderFromArrayLen", "([BI)B"⟩
theorem B7 : BI y6 "java/lang/StringUTF16" "coderFromArrayLen" := ⟨(plainFor_of_name pn_java_lang_StringUTF16), rfl, rfl⟩
abbrev c7 := jdk_52_method_15_code
theorem d7_0 : DC c7 0 (.iload_n 1) 1 := by decide +kernel
theorem d7_1 : DC c7 1 (.aload_n 0) 1 := by decide +kernel
theorem d7_2 : DC c7 2 .arraylength 1 := by decide +kernel
theorem d7_3 : DC c7 3 .isub 1 := by decide +kernel
theorem d7_4 : DC c7 4 (.bipush 31) 2 := by decide +kernel
theorem d7_6 : DC c7 6 .iushr 1 := by decide +kernel
theorem d7_7 : DC c7 7 .i2b 1 := by decide +kernel
theorem d7_8 : DC c7 8 .ireturn 1 := by decide +kernel
abbrev M7 := MM y6 c7 2 (some .byte)
theorem pd_4 : parseMethodDescriptor "([BI)B" = some ⟨[(.array .byte), .int], (some .byte)⟩ := by decide +kernel
def u4 : WS_static Z a0 "java/lang/String" 47 y6 c7 2 (some .byte) 2 := ⟨(w31 G), (w32 G), (w26 G), (w33 G), by decide +kernel, lenN pd_4 rfl⟩
theorem d4_48 : DC c4 48 (.putfield 15) 3 := by decide +kernel
theorem d4_51 : DC c4 51 (.aload_n 0) 1 := by decide +kernel
theorem d4_52 : DC c4 52 (.aload 5) 2 := by decide +kernel
theorem d4_54 : DC c4 54 (.putfield 9) 3 := by decide +kernel
theorem d4_57 : DC c4 57 .return_ 1 := by decide +kernel
theorem ef7 {x0 : Addr} (m : MethodId) : entryFrame m #[(.ref x0)] 1 = mkF m 0 #[.val (.ref x0)] [] := by simp [entryFrame, mkF, argsToLocals, Value.category, maxLocals]
theorem pn_com_example_web_whiteboard_webwhiteboard_context_ServletPattern : plainName "com/example/web_whiteboard/webwhiteboard/context/ServletPattern" = true := by first | decide +kernel | (simp [plainName, overriddenIn]; done)
abbrev y7 : MethodName := ⟨"com/example/web_whiteboard/webwhiteboard/context/ServletPattern", "below", "(Ljava/lang/String;)Lcom/example/web_whiteboard/webwhiteboard/context/ServletPattern;"⟩
theorem B8 : BI y7 "com/example/web_whiteboard/webwhiteboard/context/ServletPattern" "below" := ⟨(plainFor_of_name pn_com_example_web_whiteboard_webwhiteboard_context_ServletPattern), rfl, rfl⟩
abbrev c8 := prog_4_method_3_code
theorem d8_0 : DC c8 0 (.new 8) 3 := by decide +kernel
theorem fd_2 : parseFieldDescriptor "Ljava/lang/String;" = some (.object "java/lang/String") := by decide +kernel
theorem fd_3 : parseFieldDescriptor "Lcom/example/web_whiteboard/webwhiteboard/context/ServletPattern$Kind;" = some (.object "com/example/web_whiteboard/webwhiteboard/context/ServletPattern$Kind") := by decide +kernel
theorem d8_3 : DC c8 3 .dup 1 := by decide +kernel
theorem d8_4 : DC c8 4 (.new 95) 3 := by decide +kernel
theorem fd_4 : parseFieldDescriptor "I" = some .int := by decide +kernel
theorem fd_5 : parseFieldDescriptor "Z" = some .boolean := by decide +kernel
theorem d8_7 : DC c8 7 .dup 1 := by decide +kernel
theorem d8_8 : DC c8 8 (.invokespecial 97) 3 := by decide +kernel
theorem pn_java_lang_StringBuilder : plainName "java/lang/StringBuilder" = true := by first | decide +kernel | (simp [plainName, overriddenIn]; done)
abbrev y8 : MethodName := ⟨"java/lang/StringBuilder", "<init>", "()V"⟩
theorem B9 : BI y8 "java/lang/StringBuilder" "<init>" := ⟨(plainFor_of_name pn_java_lang_StringBuilder), rfl, rfl⟩
abbrev c9 := jdk_67_method_1_code
theorem d9_0 : DC c9 0 (.aload_n 0) 1 := by decide +kernel
theorem d9_1 : DC c9 1 (.bipush 16) 2 := by decide +kernel
theorem d9_3 : DC c9 3 (.invokespecial 1) 3 := by decide +kernel
theorem pn_java_lang_AbstractStringBuilder : plainName "java/lang/AbstractStringBuilder" = true := by first | decide +kernel | (simp [plainName, overriddenIn]; done)
abbrev y9 : MethodName := ⟨"java/lang/AbstractStringBuilder", "<init>", "(I)V"⟩
theorem B10 : BI y9 "java/lang/AbstractStringBuilder" "<init>" := ⟨(plainFor_of_name pn_java_lang_AbstractStringBuilder), rfl, rfl⟩
abbrev c10 := jdk_68_method_2_code
theorem d10_0 : DC c10 0 (.aload_n 0) 1 := by decide +kernel
theorem d10_1 : DC c10 1 (.invokespecial 3) 3 := by decide +kernel
theorem d10_4 : DC c10 4 (.getstatic 18) 3 := by decide +kernel
theorem d10_7 : DC c10 7 (.ifCond .eq 18) 3 := by decide +kernel
theorem d10_10 : DC c10 10 (.aload_n 0) 1 := by decide +kernel
theorem d10_11 : DC c10 11 (.iload_n 1) 1 := by decide +kernel
theorem d10_12 : DC c10 12 (.newarray .byte) 2 := by decide +kernel
theorem d10_14 : DC c10 14 (.putfield 15) 3 := by decide +kernel
theorem nc1 : "java/lang/StringBuilder" ≠ "java/lang/String" ∧ "java/lang/StringBuilder" ≠ "[B" := by decide +kernel
theorem d10_17 : DC c10 17 (.aload_n 0) 1 := by decide +kernel
theorem d10_18 : DC c10 18 (.iconst 0) 1 := by decide +kernel
theorem d10_19 : DC c10 19 (.putfield 22) 3 := by decide +kernel
def sn2 := slot_ne (Or.inl (w57 G)) (Or.inl (w55 G)) (by decide +kernel) (t := .byte) (t' := (.array .byte)) fd_1 fd_0
theorem d10_22 : DC c10 22 (.goto 16) 3 := by decide +kernel
theorem d10_38 : DC c10 38 .return_ 1 := by decide +kernel
def sn3 := slot_ne (Or.inl (w79 G)) (Or.inl (w55 G)) (by decide +kernel) (t := .int) (t' := (.array .byte)) fd_4 fd_0
def sn4 := slot_ne (Or.inl (w79 G)) (Or.inl (w57 G)) (by decide +kernel) (t := .int) (t' := .byte) fd_4 fd_1
def sn5 := slot_ne (Or.inl (w238 G)) (Or.inl (w55 G)) (by decide +kernel) (t := .boolean) (t' := (.array .byte)) fd_5 fd_0
def sn6 := slot_ne (Or.inl (w238 G)) (Or.inl (w57 G)) (by decide +kernel) (t := .boolean) (t' := .byte) fd_5 fd_1
def sn7 := slot_ne (Or.inl (w55 G)) (Or.inl (w57 G)) (by decide +kernel) (t := (.array .byte)) (t' := .byte) fd_0 fd_1
abbrev M10 := MM y9 c10 2 none
theorem pd_5 : parseMethodDescriptor "(I)V" = some ⟨[.int], none⟩ := by decide +kernel
def u5 : WS_special Z a0 "java/lang/StringBuilder" 1 y9 c10 2 1 := ⟨(w50 G), rfl, (w46 G), (w47 G), (w51 G), by decide +kernel, lenN pd_5 rfl⟩
theorem d9_6 : DC c9 6 .return_ 1 := by decide +kernel
abbrev M9 := MM y8 c9 1 none
theorem pd_6 : parseMethodDescriptor "()V" = some ⟨[], none⟩ := by decide +kernel
def u6 : WS_special Z a0 "com/example/web_whiteboard/webwhiteboard/context/ServletPattern" 97 y8 c9 1 0 := ⟨(w42 G), rfl, (w43 G), (w44 G), (w45 G), by decide +kernel, lenN pd_6 rfl⟩
theorem d8_11 : DC c8 11 (.aload_n 0) 1 := by decide +kernel
theorem d8_12 : DC c8 12 (.invokevirtual 98) 3 := by decide +kernel
abbrev y10 : MethodName := ⟨"java/lang/StringBuilder", "append", "(Ljava/lang/String;)Ljava/lang/StringBuilder;"⟩
theorem B11 : BI y10 "java/lang/StringBuilder" "append" := ⟨(plainFor_of_name pn_java_lang_StringBuilder), rfl, rfl⟩
abbrev c11 := jdk_67_method_7_code
theorem d11_0 : DC c11 0 (.aload_n 0) 1 := by decide +kernel
theorem d11_1 : DC c11 1 (.aload_n 1) 1 := by decide +kernel
theorem d11_2 : DC c11 2 (.invokespecial 29) 3 := by decide +kernel
theorem ef8 {x0 : Addr} {x1 : Addr} (m : MethodId) : entryFrame m #[(.ref x0), (.ref x1)] 3 = mkF m 0 #[.val (.ref x0), .val (.ref x1), .unset] [] := by simp [entryFrame, mkF, argsToLocals, Value.category, maxLocals]
abbrev y11 : MethodName := ⟨"java/lang/AbstractStringBuilder", "append", "(Ljava/lang/String;)Ljava/lang/AbstractStringBuilder;"⟩
theorem B12 : BI y11 "java/lang/AbstractStringBuilder" "append" := ⟨(plainFor_of_name pn_java_lang_AbstractStringBuilder), rfl, rfl⟩
abbrev c12 := jdk_68_method_22_code
theorem d12_0 : DC c12 0 (.aload_n 1) 1 := by decide +kernel
theorem d12_1 : DC c12 1 (.ifnonnull 8) 3 := by decide +kernel
theorem d12_9 : DC c12 9 (.aload_n 1) 1 := by decide +kernel
theorem d12_10 : DC c12 10 (.invokevirtual 32) 3 := by decide +kernel
abbrev y12 : MethodName := ⟨"java/lang/String", "length", "()I"⟩
theorem B13 : BI y12 "java/lang/String" "length" := ⟨(plainFor_of_name pn_java_lang_String), rfl, rfl⟩
abbrev c13 := jdk_42_method_54_code
theorem d13_0 : DC c13 0 (.aload_n 0) 1 := by decide +kernel
theorem d13_1 : DC c13 1 (.getfield 9) 3 := by decide +kernel
theorem d13_4 : DC c13 4 .arraylength 1 := by decide +kernel
theorem d13_5 : DC c13 5 (.aload_n 0) 1 := by decide +kernel
theorem d13_6 : DC c13 6 (.invokevirtual 335) 3 := by decide +kernel
abbrev y13 : MethodName := ⟨"java/lang/String", "coder", "()B"⟩
theorem B14 : BI y13 "java/lang/String" "coder" := ⟨(plainFor_of_name pn_java_lang_String), rfl, rfl⟩
abbrev c14 := jdk_42_method_152_code
theorem d14_0 : DC c14 0 (.getstatic 38) 3 := by decide +kernel
theorem d14_3 : DC c14 3 (.ifCond .eq 10) 3 := by decide +kernel
theorem d14_6 : DC c14 6 (.aload_n 0) 1 := by decide +kernel
theorem d14_7 : DC c14 7 (.getfield 15) 3 := by decide +kernel
theorem d14_10 : DC c14 10 (.goto 4) 3 := by decide +kernel
theorem d14_14 : DC c14 14 .ireturn 1 := by decide +kernel
abbrev M14 := MM y13 c14 1 (some .byte)
theorem pd_7 : parseMethodDescriptor "()B" = some ⟨[], (some .byte)⟩ := by decide +kernel
def u7 : WS_virtual Z a0 "java/lang/String" 335 "java/lang/String" y13 y13 c14 1 (some .byte) 0 := ⟨(w77 G), (w3 G), (w73 G), (w74 G), (w76 G), (w75 G), (nf_sel (w76 G)), by decide +kernel, lenN pd_7 rfl⟩
theorem d13_9 : DC c13 9 .ishr 1 := by decide +kernel
theorem d13_10 : DC c13 10 .ireturn 1 := by decide +kernel
abbrev M13 := MM y12 c13 1 (some .int)
theorem pd_8 : parseMethodDescriptor "()I" = some ⟨[], (some .int)⟩ := by decide +kernel
def u8 : WS_virtual Z a0 "java/lang/AbstractStringBuilder" 32 "java/lang/String" y12 y12 c13 1 (some .int) 0 := ⟨(w72 G), (w3 G), (w68 G), (w69 G), (w71 G), (w70 G), (nf_sel (w71 G)), by decide +kernel, lenN pd_8 rfl⟩
theorem d12_13 : DC c12 13 (.istore_n 2) 1 := by decide +kernel
theorem d12_14 : DC c12 14 (.aload_n 0) 1 := by decide +kernel
theorem d12_15 : DC c12 15 (.aload_n 0) 1 := by decide +kernel
theorem d12_16 : DC c12 16 (.getfield 79) 3 := by decide +kernel
theorem d12_19 : DC c12 19 (.iload_n 2) 1 := by decide +kernel
theorem d12_20 : DC c12 20 .iadd 1 := by decide +kernel
theorem d12_21 : DC c12 21 (.invokevirtual 100) 3 := by decide +kernel
theorem ef9 {x0 : Addr} {x1 : Int32} (m : MethodId) : entryFrame m #[(.ref x0), (.int x1)] 3 = mkF m 0 #[.val (.ref x0), .val (.int x1), .unset] [] := by simp [entryFrame, mkF, argsToLocals, Value.category, maxLocals]
abbrev y14 : MethodName := ⟨"java/lang/AbstractStringBuilder", "ensureCapacityInternal", "(I)V"⟩
theorem B15 : BI y14 "java/lang/AbstractStringBuilder" "ensureCapacityInternal" := ⟨(plainFor_of_name pn_java_lang_AbstractStringBuilder), rfl, rfl⟩
abbrev c15 := jdk_68_method_9_code
theorem d15_0 : DC c15 0 (.aload_n 0) 1 := by decide +kernel
theorem d15_1 : DC c15 1 (.getfield 15) 3 := by decide +kernel
theorem d15_4 : DC c15 4 .arraylength 1 := by decide +kernel
theorem d15_5 : DC c15 5 (.aload_n 0) 1 := by decide +kernel
theorem d15_6 : DC c15 6 (.getfield 22) 3 := by decide +kernel
theorem d15_9 : DC c15 9 .ishr 1 := by decide +kernel
theorem d15_10 : DC c15 10 (.istore_n 2) 1 := by decide +kernel
theorem d15_11 : DC c15 11 (.iload_n 1) 1 := by decide +kernel
theorem d15_12 : DC c15 12 (.iload_n 2) 1 := by decide +kernel
theorem d15_13 : DC c15 13 .isub 1 := by decide +kernel
theorem d15_14 : DC c15 14 (.ifCond .le 24) 3 := by decide +kernel
theorem d15_38 : DC c15 38 .return_ 1 := by decide +kernel
abbrev M15 := MM y14 c15 3 none
def u9 : WS_virtual Z a0 "java/lang/AbstractStringBuilder" 100 "java/lang/StringBuilder" y14 y14 c15 3 none 1 := ⟨(w84 G), (w50 G), (w80 G), (own_decl (w81 G) (w84 G)), (w83 G), (w81 G), (nf_sel (w83 G)), by decide +kernel, lenN pd_5 rfl⟩
theorem d12_24 : DC c12 24 (.aload_n 0) 1 := by decide +kernel
theorem d12_25 : DC c12 25 (.aload_n 0) 1 := by decide +kernel
theorem d12_26 : DC c12 26 (.getfield 79) 3 := by decide +kernel
theorem d12_29 : DC c12 29 (.aload_n 1) 1 := by decide +kernel
theorem d12_30 : DC c12 30 (.invokevirtual 208) 3 := by decide +kernel
theorem ef10 {x0 : Addr} {x1 : Int32} {x2 : Addr} (m : MethodId) : entryFrame m #[(.ref x0), (.int x1), (.ref x2)] 3 = mkF m 0 #[.val (.ref x0), .val (.int x1), .val (.ref x2)] [] := by simp [entryFrame, mkF, argsToLocals, Value.category, maxLocals]
abbrev y15 : MethodName := ⟨"java/lang/AbstractStringBuilder", "putStringAt", "(ILjava/lang/String;)V"⟩
theorem B16 : BI y15 "java/lang/AbstractStringBuilder" "putStringAt" := ⟨(plainFor_of_name pn_java_lang_AbstractStringBuilder), rfl, rfl⟩
abbrev c16 := jdk_68_method_73_code
theorem d16_0 : DC c16 0 (.aload_n 0) 1 := by decide +kernel
theorem d16_1 : DC c16 1 (.aload_n 2) 1 := by decide +kernel
theorem d16_2 : DC c16 2 (.invokevirtual 397) 3 := by decide +kernel
abbrev y16 : MethodName := ⟨"java/lang/AbstractStringBuilder", "inflateIfNeededFor", "(Ljava/lang/String;)V"⟩
theorem B17 : BI y16 "java/lang/AbstractStringBuilder" "inflateIfNeededFor" := ⟨(plainFor_of_name pn_java_lang_AbstractStringBuilder), rfl, rfl⟩
abbrev c17 := jdk_68_method_71_code
theorem d17_0 : DC c17 0 (.getstatic 18) 3 := by decide +kernel
theorem d17_3 : DC c17 3 (.ifCond .eq 18) 3 := by decide +kernel
theorem d17_6 : DC c17 6 (.aload_n 0) 1 := by decide +kernel
theorem d17_7 : DC c17 7 (.getfield 22) 3 := by decide +kernel
theorem d17_10 : DC c17 10 (.aload_n 1) 1 := by decide +kernel
theorem d17_11 : DC c17 11 (.invokevirtual 40) 3 := by decide +kernel
def u10 : WS_virtual Z a0 "java/lang/AbstractStringBuilder" 40 "java/lang/String" y13 y13 c14 1 (some .byte) 0 := ⟨(w77 G), (w3 G), (w95 G), (w74 G), (w76 G), (w75 G), (nf_sel (w76 G)), by decide +kernel, lenN pd_7 rfl⟩
theorem d17_14 : DC c17 14 (.if_icmp .eq 7) 3 := by decide +kernel
theorem d17_21 : DC c17 21 .return_ 1 := by decide +kernel
abbrev M17 := MM y16 c17 2 none
theorem pd_9 : parseMethodDescriptor "(Ljava/lang/String;)V" = some ⟨[(.object "java/lang/String")], none⟩ := by decide +kernel
def u11 : WS_virtual Z a0 "java/lang/AbstractStringBuilder" 397 "java/lang/StringBuilder" y16 y16 c17 2 none 1 := ⟨(w94 G), (w50 G), (w90 G), (own_decl (w91 G) (w94 G)), (w93 G), (w91 G), (nf_sel (w93 G)), by decide +kernel, lenN pd_9 rfl⟩
theorem d16_5 : DC c16 5 (.aload_n 2) 1 := by decide +kernel
theorem d16_6 : DC c16 6 (.aload_n 0) 1 := by decide +kernel
theorem d16_7 : DC c16 7 (.getfield 15) 3 := by decide +kernel
theorem d16_10 : DC c16 10 (.iload_n 1) 1 := by decide +kernel
theorem d16_11 : DC c16 11 (.aload_n 0) 1 := by decide +kernel
theorem d16_12 : DC c16 12 (.getfield 22) 3 := by decide +kernel
theorem d16_15 : DC c16 15 (.invokevirtual 399) 3 := by decide +kernel
theorem ef11 {x0 : Addr} {x1 : Addr} {x2 : Int32} {x3 : Int32} (m : MethodId) : entryFrame m #[(.ref x0), (.ref x1), (.int x2), (.int x3)] 4 = mkF m 0 #[.val (.ref x0), .val (.ref x1), .val (.int x2), .val (.int x3)] [] := by simp [entryFrame, mkF, argsToLocals, Value.category, maxLocals]
abbrev y17 : MethodName := ⟨"java/lang/String", "getBytes", "([BIB)V"⟩
theorem B18 : BI y17 "java/lang/String" "getBytes" := ⟨(plainFor_of_name pn_java_lang_String), rfl, rfl⟩
abbrev c18 := jdk_42_method_147_code
theorem d18_0 : DC c18 0 (.aload_n 0) 1 := by decide +kernel
theorem d18_1 : DC c18 1 (.invokevirtual 335) 3 := by decide +kernel
theorem d18_4 : DC c18 4 (.iload_n 3) 1 := by decide +kernel
theorem d18_5 : DC c18 5 (.if_icmp .ne 23) 3 := by decide +kernel
theorem d18_8 : DC c18 8 (.aload_n 0) 1 := by decide +kernel
theorem d18_9 : DC c18 9 (.getfield 9) 3 := by decide +kernel
theorem d18_12 : DC c18 12 (.iconst 0) 1 := by decide +kernel
theorem d18_13 : DC c18 13 (.aload_n 1) 1 := by decide +kernel
theorem d18_14 : DC c18 14 (.iload_n 2) 1 := by decide +kernel
theorem d18_15 : DC c18 15 (.iload_n 3) 1 := by decide +kernel
theorem d18_16 : DC c18 16 .ishl 1 := by decide +kernel
theorem d18_17 : DC c18 17 (.aload_n 0) 1 := by decide +kernel
theorem d18_18 : DC c18 18 (.getfield 9) 3 := by decide +kernel
theorem d18_21 : DC c18 21 .arraylength 1 := by decide +kernel
theorem d18_22 : DC c18 22 (.invokestatic 212) 3 := by decide +kernel
theorem d18_25 : DC c18 25 (.goto 18) 3 := by decide +kernel
theorem d18_43 : DC c18 43 .return_ 1 := by decide +kernel
abbrev M18 := MM y17 c18 4 none
theorem pd_10 : parseMethodDescriptor "([BIB)V" = some ⟨[(.array .byte), .int, .byte], none⟩ := by decide +kernel
def u12 : WS_virtual Z a0 "java/lang/AbstractStringBuilder" 399 "java/lang/String" y17 y17 c18 4 none 3 := ⟨(w100 G), (w3 G), (w96 G), (w97 G), (w99 G), (w98 G), (nf_sel (w99 G)), by decide +kernel, lenN pd_10 rfl⟩
theorem d16_18 : DC c16 18 .return_ 1 := by decide +kernel
abbrev M16 := MM y15 c16 3 none
theorem pd_11 : parseMethodDescriptor "(ILjava/lang/String;)V" = some ⟨[.int, (.object "java/lang/String")], none⟩ := by decide +kernel
def u13 : WS_virtual Z a0 "java/lang/AbstractStringBuilder" 208 "java/lang/StringBuilder" y15 y15 c16 3 none 2 := ⟨(w89 G), (w50 G), (w85 G), (own_decl (w86 G) (w89 G)), (w88 G), (w86 G), (nf_sel (w88 G)), by decide +kernel, lenN pd_11 rfl⟩
theorem d12_33 : DC c12 33 (.aload_n 0) 1 := by decide +kernel
theorem d12_34 : DC c12 34 .dup 1 := by decide +kernel
theorem d12_35 : DC c12 35 (.getfield 79) 3 := by decide +kernel
theorem d12_38 : DC c12 38 (.iload_n 2) 1 := by decide +kernel
theorem d12_39 : DC c12 39 .iadd 1 := by decide +kernel
theorem d12_40 : DC c12 40 (.putfield 79) 3 := by decide +kernel
theorem d12_43 : DC c12 43 (.aload_n 0) 1 := by decide +kernel
theorem d12_44 : DC c12 44 .areturn 1 := by decide +kernel
def sn8 := slot_ne (Or.inl (w57 G)) (Or.inl (w79 G)) (by decide +kernel) (t := .byte) (t' := .int) fd_1 fd_4
def sn9 := slot_ne (Or.inl (w238 G)) (Or.inl (w79 G)) (by decide +kernel) (t := .boolean) (t' := .int) fd_5 fd_4
def sn10 := slot_ne (Or.inl (w55 G)) (Or.inl (w79 G)) (by decide +kernel) (t := (.array .byte)) (t' := .int) fd_0 fd_4
abbrev M12 := MM y11 c12 3 (some (.object "java/lang/AbstractStringBuilder"))
theorem pd_12 : parseMethodDescriptor "(Ljava/lang/String;)Ljava/lang/AbstractStringBuilder;" = some ⟨[(.object "java/lang/String")], (some (.object "java/lang/AbstractStringBuilder"))⟩ := by decide +kernel
def u14 : WS_super Z a0 "java/lang/StringBuilder" 29 y11 c12 3 (some (.object "java/lang/AbstractStringBuilder")) "java/lang/StringBuilder" 1 := ⟨(w50 G), (w63 G), own_same (w64 G) (own_nfZ (w83 G) rfl) (by decide), (w64 G), (w65 G), by decide +kernel, (w67 G), lenN pd_12 rfl⟩
theorem d11_5 : DC c11 5 .pop 1 := by decide +kernel
theorem d11_6 : DC c11 6 (.aload_n 0) 1 := by decide +kernel
theorem d11_7 : DC c11 7 .areturn 1 := by decide +kernel
abbrev M11 := MM y10 c11 2 (some (.object "java/lang/StringBuilder"))
theorem pd_13 : parseMethodDescriptor "(Ljava/lang/String;)Ljava/lang/StringBuilder;" = some ⟨[(.object "java/lang/String")], (some (.object "java/lang/StringBuilder"))⟩ := by decide +kernel
def u15 : WS_virtual Z a0 "com/example/web_whiteboard/webwhiteboard/context/ServletPattern" 98 "java/lang/StringBuilder" y10 y10 c11 2 (some (.object "java/lang/StringBuilder")) 1 := ⟨(w62 G), (w42 G), (w58 G), (w59 G), (w61 G), (w60 G), (nf_sel (w61 G)), by decide +kernel, lenN pd_13 rfl⟩
theorem d8_15 : DC c8 15 (.ldc 61) 2 := by decide +kernel
theorem nc2 : "com/example/web_whiteboard/webwhiteboard/context/ServletPattern" ≠ "java/lang/String" ∧ "com/example/web_whiteboard/webwhiteboard/context/ServletPattern" ≠ "[B" := by decide +kernel
theorem d8_17 : DC c8 17 (.invokevirtual 98) 3 := by decide +kernel
theorem d8_20 : DC c8 20 (.invokevirtual 102) 3 := by decide +kernel
abbrev y18 : MethodName := ⟨"java/lang/StringBuilder", "toString", "()Ljava/lang/String;"⟩
theorem B19 : BI y18 "java/lang/StringBuilder" "toString" := ⟨(plainFor_of_name pn_java_lang_StringBuilder), rfl, rfl⟩
abbrev c19 := jdk_67_method_42_code
theorem d19_0 : DC c19 0 (.new 18) 3 := by decide +kernel
theorem d19_3 : DC c19 3 .dup 1 := by decide +kernel
theorem d19_4 : DC c19 4 (.aload_n 0) 1 := by decide +kernel
theorem d19_5 : DC c19 5 (.invokespecial 137) 3 := by decide +kernel
abbrev y19 : MethodName := ⟨"java/lang/String", "<init>", "(Ljava/lang/StringBuilder;)V"⟩
theorem B20 : BI y19 "java/lang/String" "<init>" := ⟨(plainFor_of_name pn_java_lang_String), rfl, rfl⟩
abbrev c20 := jdk_42_method_53_code
theorem d20_0 : DC c20 0 (.aload_n 0) 1 := by decide +kernel
theorem d20_1 : DC c20 1 (.aload_n 1) 1 := by decide +kernel
theorem d20_2 : DC c20 2 .aconst_null 1 := by decide +kernel
theorem d20_3 : DC c20 3 (.invokespecial 489) 3 := by decide +kernel
theorem ef12 {x0 : Addr} {x1 : Addr} (m : MethodId) : entryFrame m #[(.ref x0), (.ref x1), .null] 5 = mkF m 0 #[.val (.ref x0), .val (.ref x1), .val .null, .unset, .unset] [] := by simp [entryFrame, mkF, argsToLocals, Value.category, maxLocals]
abbrev y20 : MethodName := ⟨"java/lang/String", "<init>", "(Ljava/lang/AbstractStringBuilder;Ljava/lang/Void;)V"⟩
theorem B21 : BI y20 "java/lang/String" "<init>" := ⟨(plainFor_of_name pn_java_lang_String), rfl, rfl⟩
abbrev c21 := jdk_42_method_150_code
theorem d21_0 : DC c21 0 (.aload_n 0) 1 := by decide +kernel
theorem d21_1 : DC c21 1 (.invokespecial 1) 3 := by decide +kernel
theorem d21_4 : DC c21 4 (.aload_n 1) 1 := by decide +kernel
theorem d21_5 : DC c21 5 (.invokevirtual 552) 3 := by decide +kernel
abbrev y21 : MethodName := ⟨"java/lang/AbstractStringBuilder", "getValue", "()[B"⟩
theorem B22 : BI y21 "java/lang/AbstractStringBuilder" "getValue" := ⟨(plainFor_of_name pn_java_lang_AbstractStringBuilder), rfl, rfl⟩
abbrev c22 := jdk_68_method_64_code
theorem d22_0 : DC c22 0 (.aload_n 0) 1 := by decide +kernel
theorem d22_1 : DC c22 1 (.getfield 15) 3 := by decide +kernel
theorem d22_4 : DC c22 4 .areturn 1 := by decide +kernel
abbrev M22 := MM y21 c22 1 (some (.array .byte))
theorem pd_14 : parseMethodDescriptor "()[B" = some ⟨[], (some (.array .byte))⟩ := by decide +kernel
def u16 : WS_virtual Z a0 "java/lang/String" 552 "java/lang/StringBuilder" y21 y21 c22 1 (some (.array .byte)) 0 := ⟨(w122 G), (w50 G), (w118 G), (w119 G), (w121 G), (w120 G), (nf_sel (w121 G)), by decide +kernel, lenN pd_14 rfl⟩
theorem d21_8 : DC c21 8 (.astore_n 3) 1 := by decide +kernel
theorem d21_9 : DC c21 9 (.aload_n 1) 1 := by decide +kernel
theorem d21_10 : DC c21 10 (.invokevirtual 549) 3 := by decide +kernel
abbrev y22 : MethodName := ⟨"java/lang/StringBuilder", "length", "()I"⟩
theorem B23 : BI y22 "java/lang/StringBuilder" "length" := ⟨(plainFor_of_name pn_java_lang_StringBuilder), rfl, rfl⟩
abbrev c23 := jdk_67_method_93_code
theorem d23_0 : DC c23 0 (.aload_n 0) 1 := by decide +kernel
theorem d23_1 : DC c23 1 (.invokespecial 343) 3 := by decide +kernel
abbrev y23 : MethodName := ⟨"java/lang/AbstractStringBuilder", "length", "()I"⟩
theorem B24 : BI y23 "java/lang/AbstractStringBuilder" "length" := ⟨(plainFor_of_name pn_java_lang_AbstractStringBuilder), rfl, rfl⟩
abbrev c24 := jdk_68_method_6_code
theorem d24_0 : DC c24 0 (.aload_n 0) 1 := by decide +kernel
theorem d24_1 : DC c24 1 (.getfield 79) 3 := by decide +kernel
theorem d24_4 : DC c24 4 .ireturn 1 := by decide +kernel
abbrev M24 := MM y23 c24 1 (some .int)
def u17 : WS_super Z a0 "java/lang/StringBuilder" 343 y23 c24 1 (some .int) "java/lang/StringBuilder" 0 := ⟨(w50 G), (w129 G), own_same (w125 G) (own_nfZ (w83 G) rfl) (by decide), (w125 G), (w65 G), by decide +kernel, (w130 G), lenN pd_8 rfl⟩
theorem d23_4 : DC c23 4 .ireturn 1 := by decide +kernel
abbrev M23 := MM y22 c23 1 (some .int)
def u18 : WS_virtual Z a0 "java/lang/String" 549 "java/lang/StringBuilder" y23 y22 c23 1 (some .int) 0 := ⟨(w128 G), (w42 G), (w123 G), (w124 G), (w126 G), (w127 G), (own_nfZ (w83 G) rfl), by decide +kernel, lenN pd_8 rfl⟩
theorem d21_13 : DC c21 13 (.istore 4) 2 := by decide +kernel
theorem d21_15 : DC c21 15 (.aload_n 1) 1 := by decide +kernel
theorem d21_16 : DC c21 16 (.invokevirtual 1047) 3 := by decide +kernel
abbrev y24 : MethodName := ⟨"java/lang/AbstractStringBuilder", "isLatin1", "()Z"⟩
theorem B25 : BI y24 "java/lang/AbstractStringBuilder" "isLatin1" := ⟨(plainFor_of_name pn_java_lang_AbstractStringBuilder), rfl, rfl⟩
abbrev c25 := jdk_68_method_68_code
theorem d25_0 : DC c25 0 (.getstatic 18) 3 := by decide +kernel
theorem d25_3 : DC c25 3 (.ifCond .eq 14) 3 := by decide +kernel
theorem d25_6 : DC c25 6 (.aload_n 0) 1 := by decide +kernel
theorem d25_7 : DC c25 7 (.getfield 22) 3 := by decide +kernel
theorem d25_10 : DC c25 10 (.ifCond .ne 7) 3 := by decide +kernel
theorem d25_13 : DC c25 13 (.iconst 1) 1 := by decide +kernel
theorem d25_14 : DC c25 14 (.goto 4) 3 := by decide +kernel
theorem d25_18 : DC c25 18 .ireturn 1 := by decide +kernel
abbrev M25 := MM y24 c25 1 (some .boolean)
theorem pd_15 : parseMethodDescriptor "()Z" = some ⟨[], (some .boolean)⟩ := by decide +kernel
def u19 : WS_virtual Z a0 "java/lang/String" 1047 "java/lang/StringBuilder" y24 y24 c25 1 (some .boolean) 0 := ⟨(w135 G), (w50 G), (w131 G), (w132 G), (w134 G), (w133 G), (nf_sel (w134 G)), by decide +kernel, lenN pd_15 rfl⟩
theorem d21_19 : DC c21 19 (.ifCond .eq 22) 3 := by decide +kernel
theorem d21_22 : DC c21 22 (.aload_n 0) 1 := by decide +kernel
theorem d21_23 : DC c21 23 (.iconst 0) 1 := by decide +kernel
theorem d21_24 : DC c21 24 (.putfield 15) 3 := by decide +kernel
theorem d21_27 : DC c21 27 (.aload_n 0) 1 := by decide +kernel
theorem d21_28 : DC c21 28 (.aload_n 3) 1 := by decide +kernel
theorem d21_29 : DC c21 29 (.iconst 0) 1 := by decide +kernel
theorem d21_30 : DC c21 30 (.iload 4) 2 := by decide +kernel
theorem d21_32 : DC c21 32 (.invokestatic 54) 3 := by decide +kernel
theorem pn_java_util_Arrays : plainName "java/util/Arrays" = true := by first | decide +kernel | (simp [plainName, overriddenIn]; done)
abbrev y25 : MethodName := ⟨"java/util/Arrays", "copyOfRange", "([BII)[B"⟩
theorem B26 : BI y25 "java/util/Arrays" "copyOfRange" := ⟨(plainFor_of_name pn_java_util_Arrays), rfl, rfl⟩
abbrev c26 := jdk_65_method_132_code
theorem d26_0 : DC c26 0 (.iload_n 1) 1 := by decide +kernel
theorem d26_1 : DC c26 1 (.ifCond .ne 9) 3 := by decide +kernel
theorem d26_4 : DC c26 4 (.iload_n 2) 1 := by decide +kernel
theorem d26_5 : DC c26 5 (.aload_n 0) 1 := by decide +kernel
theorem d26_6 : DC c26 6 .arraylength 1 := by decide +kernel
theorem d26_7 : DC c26 7 (.if_icmp .eq 10) 3 := by decide +kernel
theorem d26_10 : DC c26 10 (.aload_n 0) 1 := by decide +kernel
theorem d26_11 : DC c26 11 (.iload_n 1) 1 := by decide +kernel
theorem d26_12 : DC c26 12 (.iload_n 2) 1 := by decide +kernel
theorem d26_13 : DC c26 13 (.invokestatic 339) 3 := by decide +kernel
theorem ef13 {x0 : Addr} {x1 : Int32} {x2 : Int32} (m : MethodId) : entryFrame m #[(.ref x0), (.int x1), (.int x2)] 5 = mkF m 0 #[.val (.ref x0), .val (.int x1), .val (.int x2), .unset, .unset] [] := by simp [entryFrame, mkF, argsToLocals, Value.category, maxLocals]
abbrev y26 : MethodName := ⟨"java/util/Arrays", "copyOfRangeByte", "([BII)[B"⟩
theorem B27 : BI y26 "java/util/Arrays" "copyOfRangeByte" := ⟨(plainFor_of_name pn_java_util_Arrays), rfl, rfl⟩
abbrev c27 := jdk_65_method_133_code
theorem d27_0 : DC c27 0 (.iload_n 1) 1 := by decide +kernel
theorem d27_1 : DC c27 1 (.iload_n 2) 1 := by decide +kernel
theorem d27_2 : DC c27 2 (.invokestatic 343) 3 := by decide +kernel
theorem ef14 {x0 : Int32} {x1 : Int32} (m : MethodId) : entryFrame m #[(.int x0), (.int x1)] 2 = mkF m 0 #[.val (.int x0), .val (.int x1)] [] := by simp [entryFrame, mkF, argsToLocals, Value.category, maxLocals]
abbrev y27 : MethodName := ⟨"java/util/Arrays", "checkLength", "(II)V"⟩
theorem B28 : BI y27 "java/util/Arrays" "checkLength" := ⟨(plainFor_of_name pn_java_util_Arrays), rfl, rfl⟩
abbrev c28 := jdk_65_method_131_code
theorem d28_0 : DC c28 0 (.iload_n 1) 1 := by decide +kernel
theorem d28_1 : DC c28 1 (.iload_n 0) 1 := by decide +kernel
theorem d28_2 : DC c28 2 (.if_icmp .ge 35) 3 := by decide +kernel
theorem d28_37 : DC c28 37 .return_ 1 := by decide +kernel
abbrev M28 := MM y27 c28 2 none
theorem pd_16 : parseMethodDescriptor "(II)V" = some ⟨[.int, .int], none⟩ := by decide +kernel
def u20 : WS_static Z a0 "java/util/Arrays" 343 y27 c28 2 none 2 := ⟨(w143 G), (w144 G), (w138 G), (w145 G), by decide +kernel, lenN pd_16 rfl⟩
theorem d27_5 : DC c27 5 (.iload_n 2) 1 := by decide +kernel
theorem d27_6 : DC c27 6 (.iload_n 1) 1 := by decide +kernel
theorem d27_7 : DC c27 7 .isub 1 := by decide +kernel
theorem d27_8 : DC c27 8 (.istore_n 3) 1 := by decide +kernel
theorem d27_9 : DC c27 9 (.iload_n 3) 1 := by decide +kernel
theorem d27_10 : DC c27 10 (.newarray .byte) 2 := by decide +kernel
theorem d27_12 : DC c27 12 (.astore 4) 2 := by decide +kernel
theorem d27_14 : DC c27 14 (.aload_n 0) 1 := by decide +kernel
theorem d27_15 : DC c27 15 (.iload_n 1) 1 := by decide +kernel
theorem d27_16 : DC c27 16 (.aload 4) 2 := by decide +kernel
theorem d27_18 : DC c27 18 (.iconst 0) 1 := by decide +kernel
theorem d27_19 : DC c27 19 (.aload_n 0) 1 := by decide +kernel
theorem d27_20 : DC c27 20 .arraylength 1 := by decide +kernel
theorem d27_21 : DC c27 21 (.iload_n 1) 1 := by decide +kernel
theorem d27_22 : DC c27 22 .isub 1 := by decide +kernel
theorem d27_23 : DC c27 23 (.iload_n 3) 1 := by decide +kernel
theorem d27_24 : DC c27 24 (.invokestatic 304) 3 := by decide +kernel
theorem pf_29 : plainFor ⟨"java/lang/Math", "min", "(II)I"⟩ = true := by decide +kernel
abbrev y28 : MethodName := ⟨"java/lang/Math", "min", "(II)I"⟩
theorem B29 : BI y28 "java/lang/Math" "min" := ⟨pf_29, rfl, rfl⟩
abbrev c29 := jdk_29_method_69_code
theorem d29_0 : DC c29 0 (.iload_n 0) 1 := by decide +kernel
theorem d29_1 : DC c29 1 (.iload_n 1) 1 := by decide +kernel
theorem d29_2 : DC c29 2 (.if_icmp .gt 7) 3 := by decide +kernel
theorem d29_9 : DC c29 9 (.iload_n 1) 1 := by decide +kernel
theorem d29_10 : DC c29 10 .ireturn 1 := by decide +kernel
abbrev M29 := MM y28 c29 2 (some .int)
theorem pd_17 : parseMethodDescriptor "(II)I" = some ⟨[.int, .int], (some .int)⟩ := by decide +kernel
def u21 : WS_static Z a0 "java/util/Arrays" 304 y28 c29 2 (some .int) 2 := ⟨(w146 G), (w147 G), (w148 G), (w149 G), by decide +kernel, lenN pd_17 rfl⟩
theorem d27_27 : DC c27 27 (.invokestatic 150) 3 := by decide +kernel
theorem d27_30 : DC c27 30 (.aload 4) 2 := by decide +kernel
theorem d27_32 : DC c27 32 .areturn 1 := by decide +kernel
abbrev M27 := MM y26 c27 5 (some (.array .byte))
theorem pd_18 : parseMethodDescriptor "([BII)[B" = some ⟨[(.array .byte), .int, .int], (some (.array .byte))⟩ := by decide +kernel
def u22 : WS_static Z a0 "java/util/Arrays" 339 y26 c27 5 (some (.array .byte)) 3 := ⟨(w140 G), (w141 G), (w138 G), (w142 G), by decide +kernel, lenN pd_18 rfl⟩
theorem d26_16 : DC c26 16 .areturn 1 := by decide +kernel
abbrev M26 := MM y25 c26 3 (some (.array .byte))
def u23 : WS_static Z a0 "java/lang/String" 54 y25 c26 3 (some (.array .byte)) 3 := ⟨(w136 G), (w137 G), (w138 G), (w139 G), by decide +kernel, lenN pd_18 rfl⟩
theorem d21_35 : DC c21 35 (.putfield 9) 3 := by decide +kernel
theorem d21_38 : DC c21 38 (.goto 59) 3 := by decide +kernel
theorem d21_97 : DC c21 97 .return_ 1 := by decide +kernel
abbrev M21 := MM y20 c21 5 none
theorem pd_19 : parseMethodDescriptor "(Ljava/lang/AbstractStringBuilder;Ljava/lang/Void;)V" = some ⟨[(.object "java/lang/AbstractStringBuilder"), (.object "java/lang/Void")], none⟩ := by decide +kernel
def u24 : WS_special Z a0 "java/lang/String" 489 y20 c21 5 2 := ⟨(w3 G), rfl, (w115 G), (w116 G), (w117 G), by decide +kernel, lenN pd_19 rfl⟩
theorem d20_6 : DC c20 6 .return_ 1 := by decide +kernel
abbrev M20 := MM y19 c20 2 none
theorem pd_20 : parseMethodDescriptor "(Ljava/lang/StringBuilder;)V" = some ⟨[(.object "java/lang/StringBuilder")], none⟩ := by decide +kernel
def u25 : WS_special Z a0 "java/lang/StringBuilder" 137 y19 c20 2 1 := ⟨(w3 G), rfl, (w112 G), (w113 G), (w114 G), by decide +kernel, lenN pd_20 rfl⟩
theorem d19_8 : DC c19 8 .areturn 1 := by decide +kernel
abbrev M19 := MM y18 c19 1 (some (.object "java/lang/String"))
theorem pd_21 : parseMethodDescriptor "()Ljava/lang/String;" = some ⟨[], (some (.object "java/lang/String"))⟩ := by decide +kernel
def u26 : WS_virtual Z a0 "com/example/web_whiteboard/webwhiteboard/context/ServletPattern" 102 "java/lang/StringBuilder" y18 y18 c19 1 (some (.object "java/lang/String")) 0 := ⟨(w110 G), (w42 G), (w106 G), (w107 G), (w109 G), (w108 G), (nf_sel (w109 G)), by decide +kernel, lenN pd_21 rfl⟩
theorem d8_23 : DC c8 23 (.getstatic 66) 3 := by decide +kernel
theorem d8_26 : DC c8 26 (.aload_n 0) 1 := by decide +kernel
theorem d8_27 : DC c8 27 (.invokespecial 92) 3 := by decide +kernel
theorem ef15 {x0 : Addr} {x1 : Addr} {x2 : Addr} {x3 : Addr} (m : MethodId) : entryFrame m #[(.ref x0), (.ref x1), (.ref x2), (.ref x3)] 4 = mkF m 0 #[.val (.ref x0), .val (.ref x1), .val (.ref x2), .val (.ref x3)] [] := by simp [entryFrame, mkF, argsToLocals, Value.category, maxLocals]
abbrev y29 : MethodName := ⟨"com/example/web_whiteboard/webwhiteboard/context/ServletPattern", "<init>", "(Ljava/lang/String;Lcom/example/web_whiteboard/webwhiteboard/context/ServletPattern$Kind;Ljava/lang/String;)V"⟩
theorem B30 : BI y29 "com/example/web_whiteboard/webwhiteboard/context/ServletPattern" "<init>" := ⟨(plainFor_of_name pn_com_example_web_whiteboard_webwhiteboard_context_ServletPattern), rfl, rfl⟩
abbrev c30 := prog_4_method_1_code
theorem d30_0 : DC c30 0 (.aload_n 0) 1 := by decide +kernel
theorem d30_1 : DC c30 1 (.invokespecial 1) 3 := by decide +kernel
theorem d30_4 : DC c30 4 (.aload_n 0) 1 := by decide +kernel
theorem d30_5 : DC c30 5 (.aload_n 1) 1 := by decide +kernel
theorem d30_6 : DC c30 6 (.putfield 7) 3 := by decide +kernel
theorem d30_9 : DC c30 9 (.aload_n 0) 1 := by decide +kernel
theorem d30_10 : DC c30 10 (.aload_n 2) 1 := by decide +kernel
theorem d30_11 : DC c30 11 (.putfield 13) 3 := by decide +kernel
def sn11 := slot_ne (Or.inr (w161 G)) (Or.inr (w159 G)) (by decide +kernel) (t := (.object "com/example/web_whiteboard/webwhiteboard/context/ServletPattern$Kind")) (t' := (.object "java/lang/String")) fd_3 fd_2
theorem d30_14 : DC c30 14 (.aload_n 0) 1 := by decide +kernel
theorem d30_15 : DC c30 15 (.aload_n 3) 1 := by decide +kernel
theorem d30_16 : DC c30 16 (.putfield 17) 3 := by decide +kernel
def sn12 := slot_ne (Or.inr (w163 G)) (Or.inr (w159 G)) (by decide +kernel) (t := (.object "java/lang/String")) (t' := (.object "java/lang/String")) fd_2 fd_2
def sn13 := slot_ne (Or.inr (w163 G)) (Or.inr (w161 G)) (by decide +kernel) (t := (.object "java/lang/String")) (t' := (.object "com/example/web_whiteboard/webwhiteboard/context/ServletPattern$Kind")) fd_2 fd_3
theorem d30_19 : DC c30 19 .return_ 1 := by decide +kernel
def sn14 := slot_ne (Or.inr (w161 G)) (Or.inr (w163 G)) (by decide +kernel) (t := (.object "com/example/web_whiteboard/webwhiteboard/context/ServletPattern$Kind")) (t' := (.object "java/lang/String")) fd_3 fd_2
def sn15 := slot_ne (Or.inr (w159 G)) (Or.inr (w161 G)) (by decide +kernel) (t := (.object "java/lang/String")) (t' := (.object "com/example/web_whiteboard/webwhiteboard/context/ServletPattern$Kind")) fd_2 fd_3
def sn16 := slot_ne (Or.inr (w159 G)) (Or.inr (w163 G)) (by decide +kernel) (t := (.object "java/lang/String")) (t' := (.object "java/lang/String")) fd_2 fd_2
abbrev M30 := MM y29 c30 4 none
theorem pd_22 : parseMethodDescriptor "(Ljava/lang/String;Lcom/example/web_whiteboard/webwhiteboard/context/ServletPattern$Kind;Ljava/lang/String;)V" = some ⟨[(.object "java/lang/String"), (.object "com/example/web_whiteboard/webwhiteboard/context/ServletPattern$Kind"), (.object "java/lang/String")], none⟩ := by decide +kernel
def u27 : WS_special Z a0 "com/example/web_whiteboard/webwhiteboard/context/ServletPattern" 92 y29 c30 4 3 := ⟨(w36 G), rfl, (w154 G), (w155 G), (w156 G), by decide +kernel, lenN pd_22 rfl⟩
theorem d8_30 : DC c8 30 .areturn 1 := by decide +kernel
abbrev M8 := MM y7 c8 1 (some (.object "com/example/web_whiteboard/webwhiteboard/context/ServletPattern"))
theorem pd_23 : parseMethodDescriptor "(Ljava/lang/String;)Lcom/example/web_whiteboard/webwhiteboard/context/ServletPattern;" = some ⟨[(.object "java/lang/String")], (some (.object "com/example/web_whiteboard/webwhiteboard/context/ServletPattern"))⟩ := by decide +kernel
def u28 : WS_static Z a0 "com/example/web_whiteboard/webwhiteboard/context/ServletPatternBelowPinLaw" 13 y7 c8 1 (some (.object "com/example/web_whiteboard/webwhiteboard/context/ServletPattern")) 1 := ⟨(w34 G), (w35 G), (w36 G), (w37 G), by decide +kernel, lenN pd_23 rfl⟩
abbrev y30 : MethodName := ⟨"com/example/web_whiteboard/webwhiteboard/context/ServletPattern", "getPattern", "()Ljava/lang/String;"⟩
theorem B31 : BI y30 "com/example/web_whiteboard/webwhiteboard/context/ServletPattern" "getPattern" := ⟨(plainFor_of_name pn_com_example_web_whiteboard_webwhiteboard_context_ServletPattern), rfl, rfl⟩
abbrev c31 := prog_4_method_5_code
theorem d31_0 : DC c31 0 (.aload_n 0) 1 := by decide +kernel
theorem d31_1 : DC c31 1 (.getfield 7) 3 := by decide +kernel
theorem d31_4 : DC c31 4 .areturn 1 := by decide +kernel
abbrev M31 := MM y30 c31 1 (some (.object "java/lang/String"))
def u29 : WS_virtual Z a0 "com/example/web_whiteboard/webwhiteboard/context/ServletPatternBelowPinLaw" 19 "com/example/web_whiteboard/webwhiteboard/context/ServletPattern" y30 y30 c31 1 (some (.object "java/lang/String")) 0 := ⟨(w168 G), (w36 G), (w164 G), (w165 G), (w167 G), (w166 G), (nf_sel (w167 G)), by decide +kernel, lenN pd_21 rfl⟩
abbrev y31 : MethodName := ⟨"java/lang/String", "equals", "(Ljava/lang/Object;)Z"⟩
theorem B32 : BI y31 "java/lang/String" "equals" := ⟨(plainFor_of_name pn_java_lang_String), rfl, rfl⟩
abbrev c32 := jdk_42_method_66_code
theorem d32_0 : DC c32 0 (.aload_n 0) 1 := by decide +kernel
theorem d32_1 : DC c32 1 (.aload_n 1) 1 := by decide +kernel
theorem d32_2 : DC c32 2 (.if_acmp .ne 5) 3 := by decide +kernel
theorem d32_7 : DC c32 7 (.aload_n 1) 1 := by decide +kernel
theorem d32_8 : DC c32 8 (.instanceof 10) 3 := by decide +kernel
theorem d32_11 : DC c32 11 (.ifCond .eq 43) 3 := by decide +kernel
theorem d32_14 : DC c32 14 (.aload_n 1) 1 := by decide +kernel
theorem d32_15 : DC c32 15 (.checkcast 10) 3 := by decide +kernel
theorem d32_18 : DC c32 18 (.astore_n 2) 1 := by decide +kernel
theorem d32_19 : DC c32 19 (.getstatic 38) 3 := by decide +kernel
theorem d32_22 : DC c32 22 (.ifCond .eq 14) 3 := by decide +kernel
theorem d32_25 : DC c32 25 (.aload_n 0) 1 := by decide +kernel
theorem d32_26 : DC c32 26 (.getfield 15) 3 := by decide +kernel
theorem d32_29 : DC c32 29 (.aload_n 2) 1 := by decide +kernel
theorem d32_30 : DC c32 30 (.getfield 15) 3 := by decide +kernel
theorem d32_33 : DC c32 33 (.if_icmp .ne 21) 3 := by decide +kernel
theorem d32_36 : DC c32 36 (.aload_n 0) 1 := by decide +kernel
theorem d32_37 : DC c32 37 (.getfield 9) 3 := by decide +kernel
theorem d32_40 : DC c32 40 (.aload_n 2) 1 := by decide +kernel
theorem d32_41 : DC c32 41 (.getfield 9) 3 := by decide +kernel
theorem d32_44 : DC c32 44 (.invokestatic 541) 3 := by decide +kernel
theorem pn_java_lang_StringLatin1 : plainName "java/lang/StringLatin1" = true := by first | decide +kernel | (simp [plainName, overriddenIn]; done)
abbrev y32 : MethodName := ⟨"java/lang/StringLatin1", "equals", "([B[B)Z"⟩
theorem B33 : BI y32 "java/lang/StringLatin1" "equals" := ⟨(plainFor_of_name pn_java_lang_StringLatin1), rfl, rfl⟩
abbrev c33 := jdk_43_method_13_code
theorem d33_0 : DC c33 0 (.aload_n 0) 1 := by decide +kernel
theorem d33_1 : DC c33 1 .arraylength 1 := by decide +kernel
theorem d33_2 : DC c33 2 (.aload_n 1) 1 := by decide +kernel
theorem d33_3 : DC c33 3 .arraylength 1 := by decide +kernel
theorem d33_4 : DC c33 4 (.if_icmp .ne 30) 3 := by decide +kernel
theorem d33_7 : DC c33 7 (.iconst 0) 1 := by decide +kernel
theorem d33_8 : DC c33 8 (.istore_n 2) 1 := by decide +kernel
theorem d33_9 : DC c33 9 (.iload_n 2) 1 := by decide +kernel
theorem d33_10 : DC c33 10 (.aload_n 0) 1 := by decide +kernel
theorem d33_11 : DC c33 11 .arraylength 1 := by decide +kernel
theorem d33_12 : DC c33 12 (.if_icmp .ge 20) 3 := by decide +kernel
theorem d33_15 : DC c33 15 (.aload_n 0) 1 := by decide +kernel
theorem d33_16 : DC c33 16 (.iload_n 2) 1 := by decide +kernel
theorem d33_17 : DC c33 17 .baload 1 := by decide +kernel
theorem d33_18 : DC c33 18 (.aload_n 1) 1 := by decide +kernel
theorem d33_19 : DC c33 19 (.iload_n 2) 1 := by decide +kernel
theorem d33_20 : DC c33 20 .baload 1 := by decide +kernel
theorem d33_21 : DC c33 21 (.if_icmp .eq 5) 3 := by decide +kernel
theorem d33_26 : DC c33 26 (.iinc 2 1) 3 := by decide +kernel
theorem d33_29 : DC c33 29 (.goto (-20)) 3 := by decide +kernel
theorem d33_32 : DC c33 32 (.iconst 1) 1 := by decide +kernel
theorem d33_33 : DC c33 33 .ireturn 1 := by decide +kernel
abbrev M33 := MM y32 c33 3 (some .boolean)
theorem pd_24 : parseMethodDescriptor "([B[B)Z" = some ⟨[(.array .byte), (.array .byte)], (some .boolean)⟩ := by decide +kernel
def u30 : WS_static Z a0 "java/lang/String" 541 y32 c33 3 (some .boolean) 2 := ⟨(w175 G), (w176 G), (w177 G), (w178 G), by decide +kernel, lenN pd_24 rfl⟩
theorem d32_47 : DC c32 47 (.ifCond .eq 7) 3 := by decide +kernel
theorem d32_50 : DC c32 50 (.iconst 1) 1 := by decide +kernel
theorem d32_51 : DC c32 51 (.goto 4) 3 := by decide +kernel
theorem d32_55 : DC c32 55 .ireturn 1 := by decide +kernel
abbrev M32 := MM y31 c32 3 (some .boolean)
theorem pd_25 : parseMethodDescriptor "(Ljava/lang/Object;)Z" = some ⟨[(.object "java/lang/Object")], (some .boolean)⟩ := by decide +kernel
def u31 : WS_virtual Z a0 "com/example/web_whiteboard/webwhiteboard/context/ServletPatternBelowPinLaw" 23 "java/lang/String" y31 y31 c32 3 (some .boolean) 1 := ⟨(w173 G), (w3 G), (w169 G), (w170 G), (w172 G), (w171 G), (nf_sel (w172 G)), by decide +kernel, lenN pd_25 rfl⟩
abbrev y33 : MethodName := ⟨"com/example/web_whiteboard/webwhiteboard/context/ServletPattern", "getKind", "()Lcom/example/web_whiteboard/webwhiteboard/context/ServletPattern$Kind;"⟩
theorem B34 : BI y33 "com/example/web_whiteboard/webwhiteboard/context/ServletPattern" "getKind" := ⟨(plainFor_of_name pn_com_example_web_whiteboard_webwhiteboard_context_ServletPattern), rfl, rfl⟩
abbrev c34 := prog_4_method_6_code
theorem d34_0 : DC c34 0 (.aload_n 0) 1 := by decide +kernel
theorem d34_1 : DC c34 1 (.getfield 13) 3 := by decide +kernel
theorem d34_4 : DC c34 4 .areturn 1 := by decide +kernel
abbrev M34 := MM y33 c34 1 (some (.object "com/example/web_whiteboard/webwhiteboard/context/ServletPattern$Kind"))
theorem pd_26 : parseMethodDescriptor "()Lcom/example/web_whiteboard/webwhiteboard/context/ServletPattern$Kind;" = some ⟨[], (some (.object "com/example/web_whiteboard/webwhiteboard/context/ServletPattern$Kind"))⟩ := by decide +kernel
def u32 : WS_virtual Z a0 "com/example/web_whiteboard/webwhiteboard/context/ServletPatternBelowPinLaw" 27 "com/example/web_whiteboard/webwhiteboard/context/ServletPattern" y33 y33 c34 1 (some (.object "com/example/web_whiteboard/webwhiteboard/context/ServletPattern$Kind")) 0 := ⟨(w183 G), (w36 G), (w179 G), (w180 G), (w182 G), (w181 G), (nf_sel (w182 G)), by decide +kernel, lenN pd_26 rfl⟩
abbrev y34 : MethodName := ⟨"com/example/web_whiteboard/webwhiteboard/context/ServletPattern", "getStem", "()Ljava/lang/String;"⟩
theorem B35 : BI y34 "com/example/web_whiteboard/webwhiteboard/context/ServletPattern" "getStem" := ⟨(plainFor_of_name pn_com_example_web_whiteboard_webwhiteboard_context_ServletPattern), rfl, rfl⟩
abbrev c35 := prog_4_method_7_code
theorem d35_0 : DC c35 0 (.aload_n 0) 1 := by decide +kernel
theorem d35_1 : DC c35 1 (.getfield 17) 3 := by decide +kernel
theorem d35_4 : DC c35 4 .areturn 1 := by decide +kernel
abbrev M35 := MM y34 c35 1 (some (.object "java/lang/String"))
def u33 : WS_virtual Z a0 "com/example/web_whiteboard/webwhiteboard/context/ServletPatternBelowPinLaw" 37 "com/example/web_whiteboard/webwhiteboard/context/ServletPattern" y34 y34 c35 1 (some (.object "java/lang/String")) 0 := ⟨(w189 G), (w36 G), (w185 G), (w186 G), (w188 G), (w187 G), (nf_sel (w188 G)), by decide +kernel, lenN pd_21 rfl⟩
theorem d32_5 : DC c32 5 (.iconst 1) 1 := by decide +kernel
theorem d32_6 : DC c32 6 .ireturn 1 := by decide +kernel
theorem d6_23 : DC c6 23 (.iload 5) 2 := by decide +kernel
theorem d6_25 : DC c6 25 .ireturn 1 := by decide +kernel
theorem d5_20 : DC c5 20 (.aload_n 0) 1 := by decide +kernel
theorem d5_21 : DC c5 21 (.iload_n 1) 1 := by decide +kernel
theorem d5_22 : DC c5 22 (.iload_n 2) 1 := by decide +kernel
theorem d5_23 : DC c5 23 (.invokestatic 119) 3 := by decide +kernel
abbrev y35 : MethodName := ⟨"java/lang/StringUTF16", "toBytes", "([CII)[B"⟩
theorem B36 : BI y35 "java/lang/StringUTF16" "toBytes" := ⟨(plainFor_of_name pn_java_lang_StringUTF16), rfl, rfl⟩
abbrev c36 := jdk_52_method_14_code
theorem d36_0 : DC c36 0 (.iload_n 2) 1 := by decide +kernel
theorem d36_1 : DC c36 1 (.invokestatic 107) 3 := by decide +kernel
theorem ef16 {x0 : Int32} (m : MethodId) : entryFrame m #[(.int x0)] 1 = mkF m 0 #[.val (.int x0)] [] := by simp [entryFrame, mkF, argsToLocals, Value.category, maxLocals]
abbrev y36 : MethodName := ⟨"java/lang/StringUTF16", "newBytesFor", "(I)[B"⟩
theorem B37 : BI y36 "java/lang/StringUTF16" "newBytesFor" := ⟨(plainFor_of_name pn_java_lang_StringUTF16), rfl, rfl⟩
abbrev c37 := jdk_52_method_2_code
theorem d37_0 : DC c37 0 (.iload_n 0) 1 := by decide +kernel
theorem d37_1 : DC c37 1 (.invokestatic 11) 3 := by decide +kernel
abbrev y37 : MethodName := ⟨"java/lang/StringUTF16", "newBytesLength", "(I)I"⟩
theorem B38 : BI y37 "java/lang/StringUTF16" "newBytesLength" := ⟨(plainFor_of_name pn_java_lang_StringUTF16), rfl, rfl⟩
abbrev c38 := jdk_52_method_3_code
theorem d38_0 : DC c38 0 (.iload_n 0) 1 := by decide +kernel
theorem d38_1 : DC c38 1 (.ifCond .ge 11) 3 := by decide +kernel
theorem d38_12 : DC c38 12 (.iload_n 0) 1 := by decide +kernel
theorem d38_13 : DC c38 13 (.ldc 20) 2 := by decide +kernel
theorem d38_15 : DC c38 15 (.if_icmp .lt 40) 3 := by decide +kernel
theorem d38_55 : DC c38 55 (.iload_n 0) 1 := by decide +kernel
theorem d38_56 : DC c38 56 (.iconst 1) 1 := by decide +kernel
theorem d38_57 : DC c38 57 .ishl 1 := by decide +kernel
theorem d38_58 : DC c38 58 .ireturn 1 := by decide +kernel
abbrev M38 := MM y37 c38 1 (some .int)
theorem pd_27 : parseMethodDescriptor "(I)I" = some ⟨[.int], (some .int)⟩ := by decide +kernel
def u34 : WS_static Z a0 "java/lang/StringUTF16" 11 y37 c38 1 (some .int) 1 := ⟨(w196 G), (w197 G), (w26 G), (w198 G), by decide +kernel, lenN pd_27 rfl⟩
theorem d37_4 : DC c37 4 (.newarray .byte) 2 := by decide +kernel
theorem d37_6 : DC c37 6 .areturn 1 := by decide +kernel
abbrev M37 := MM y36 c37 1 (some (.array .byte))
theorem pd_28 : parseMethodDescriptor "(I)[B" = some ⟨[.int], (some (.array .byte))⟩ := by decide +kernel
def u35 : WS_static Z a0 "java/lang/StringUTF16" 107 y36 c37 1 (some (.array .byte)) 1 := ⟨(w193 G), (w194 G), (w26 G), (w195 G), by decide +kernel, lenN pd_28 rfl⟩
theorem d36_4 : DC c36 4 (.astore_n 3) 1 := by decide +kernel
theorem d36_5 : DC c36 5 (.iconst 0) 1 := by decide +kernel
theorem d36_6 : DC c36 6 (.istore 4) 2 := by decide +kernel
theorem d36_8 : DC c36 8 (.iload 4) 2 := by decide +kernel
theorem d36_10 : DC c36 10 (.iload_n 2) 1 := by decide +kernel
theorem d36_11 : DC c36 11 (.if_icmp .ge 21) 3 := by decide +kernel
theorem d36_14 : DC c36 14 (.aload_n 3) 1 := by decide +kernel
theorem d36_15 : DC c36 15 (.iload 4) 2 := by decide +kernel
theorem d36_17 : DC c36 17 (.aload_n 0) 1 := by decide +kernel
theorem d36_18 : DC c36 18 (.iload_n 1) 1 := by decide +kernel
theorem d36_19 : DC c36 19 .caload 1 := by decide +kernel
theorem d36_20 : DC c36 20 (.invokestatic 111) 3 := by decide +kernel
theorem pd_29 : parseMethodDescriptor "([BII)V" = some ⟨[(.array .byte), .int, .int], none⟩ := by decide +kernel
def u36 : WS_static Z a0 "java/lang/StringUTF16" 111 y0 c0 3 none 3 := ⟨(w200 G), (w201 G), (w26 G), (w202 G), by decide +kernel, lenN pd_29 rfl⟩
theorem d36_23 : DC c36 23 (.iinc 1 1) 3 := by decide +kernel
theorem d36_26 : DC c36 26 (.iinc 4 1) 3 := by decide +kernel
theorem d36_29 : DC c36 29 (.goto (-21)) 3 := by decide +kernel
theorem d36_32 : DC c36 32 (.aload_n 3) 1 := by decide +kernel
theorem d36_33 : DC c36 33 .areturn 1 := by decide +kernel
abbrev M36 := MM y35 c36 5 (some (.array .byte))
def u37 : WS_static Z a0 "java/lang/StringUTF16" 119 y35 c36 5 (some (.array .byte)) 3 := ⟨(w190 G), (w191 G), (w26 G), (w192 G), by decide +kernel, lenN pd_3 rfl⟩
theorem d5_26 : DC c5 26 (.astore 5) 2 := by decide +kernel
theorem d5_28 : DC c5 28 (.aload 5) 2 := by decide +kernel
theorem d5_30 : DC c5 30 (.iload 4) 2 := by decide +kernel
theorem d5_32 : DC c5 32 (.invokestatic 71) 3 := by decide +kernel
theorem pd_30 : parseMethodDescriptor "([BI)C" = some ⟨[(.array .byte), .int], (some .char)⟩ := by decide +kernel
def u38 : WS_static Z a0 "java/lang/StringUTF16" 71 y1 c1 2 (some .char) 2 := ⟨(w206 G), (w207 G), (w26 G), (w208 G), by decide +kernel, lenN pd_30 rfl⟩
theorem d5_35 : DC c5 35 (.sipush 255) 3 := by decide +kernel
theorem d5_38 : DC c5 38 (.if_icmp .gt 16) 3 := by decide +kernel
theorem d5_54 : DC c5 54 (.aload 5) 2 := by decide +kernel
theorem d5_56 : DC c5 56 .areturn 1 := by decide +kernel
theorem d17_17 : DC c17 17 (.aload_n 0) 1 := by decide +kernel
theorem d17_18 : DC c17 18 (.invokevirtual 195) 3 := by decide +kernel
theorem ef17 {x0 : Addr} (m : MethodId) : entryFrame m #[(.ref x0)] 2 = mkF m 0 #[.val (.ref x0), .unset] [] := by simp [entryFrame, mkF, argsToLocals, Value.category, maxLocals]
abbrev y38 : MethodName := ⟨"java/lang/AbstractStringBuilder", "inflate", "()V"⟩
theorem B39 : BI y38 "java/lang/AbstractStringBuilder" "inflate" := ⟨(plainFor_of_name pn_java_lang_AbstractStringBuilder), rfl, rfl⟩
abbrev c39 := jdk_68_method_11_code
theorem d39_0 : DC c39 0 (.aload_n 0) 1 := by decide +kernel
theorem d39_1 : DC c39 1 (.invokevirtual 83) 3 := by decide +kernel
def u39 : WS_virtual Z a0 "java/lang/AbstractStringBuilder" 83 "java/lang/StringBuilder" y24 y24 c25 1 (some .boolean) 0 := ⟨(w135 G), (w50 G), (w214 G), (w132 G), (w134 G), (w133 G), (nf_sel (w134 G)), by decide +kernel, lenN pd_15 rfl⟩
theorem d39_4 : DC c39 4 (.ifCond .ne 4) 3 := by decide +kernel
theorem d39_8 : DC c39 8 (.aload_n 0) 1 := by decide +kernel
theorem d39_9 : DC c39 9 (.getfield 15) 3 := by decide +kernel
theorem d39_12 : DC c39 12 .arraylength 1 := by decide +kernel
theorem d39_13 : DC c39 13 (.invokestatic 26) 3 := by decide +kernel
def u40 : WS_static Z a0 "java/lang/AbstractStringBuilder" 26 y36 c37 1 (some (.array .byte)) 1 := ⟨(w215 G), (w194 G), (w26 G), (w195 G), by decide +kernel, lenN pd_28 rfl⟩
theorem d39_16 : DC c39 16 (.astore_n 1) 1 := by decide +kernel
theorem d39_17 : DC c39 17 (.aload_n 0) 1 := by decide +kernel
theorem d39_18 : DC c39 18 (.getfield 15) 3 := by decide +kernel
theorem d39_21 : DC c39 21 (.iconst 0) 1 := by decide +kernel
theorem d39_22 : DC c39 22 (.aload_n 1) 1 := by decide +kernel
theorem d39_23 : DC c39 23 (.iconst 0) 1 := by decide +kernel
theorem d39_24 : DC c39 24 (.aload_n 0) 1 := by decide +kernel
theorem d39_25 : DC c39 25 (.getfield 79) 3 := by decide +kernel
theorem d39_28 : DC c39 28 (.invokestatic 125) 3 := by decide +kernel
theorem ef18 {x0 : Addr} {x1 : Int32} {x2 : Addr} {x3 : Int32} {x4 : Int32} (m : MethodId) : entryFrame m #[(.ref x0), (.int x1), (.ref x2), (.int x3), (.int x4)] 5 = mkF m 0 #[.val (.ref x0), .val (.int x1), .val (.ref x2), .val (.int x3), .val (.int x4)] [] := by simp [entryFrame, mkF, argsToLocals, Value.category, maxLocals]
abbrev y39 : MethodName := ⟨"java/lang/StringLatin1", "inflate", "([BI[BII)V"⟩
theorem B40 : BI y39 "java/lang/StringLatin1" "inflate" := ⟨(plainFor_of_name pn_java_lang_StringLatin1), rfl, rfl⟩
abbrev c40 := jdk_43_method_50_code
theorem d40_0 : DC c40 0 (.aload_n 0) 1 := by decide +kernel
theorem d40_1 : DC c40 1 (.iload_n 1) 1 := by decide +kernel
theorem d40_2 : DC c40 2 (.aload_n 2) 1 := by decide +kernel
theorem d40_3 : DC c40 3 (.iload_n 3) 1 := by decide +kernel
theorem d40_4 : DC c40 4 (.iload 4) 2 := by decide +kernel
theorem d40_6 : DC c40 6 (.invokestatic 240) 3 := by decide +kernel
theorem ef19 {x0 : Addr} {x1 : Int32} {x2 : Addr} {x3 : Int32} {x4 : Int32} (m : MethodId) : entryFrame m #[(.ref x0), (.int x1), (.ref x2), (.int x3), (.int x4)] 6 = mkF m 0 #[.val (.ref x0), .val (.int x1), .val (.ref x2), .val (.int x3), .val (.int x4), .unset] [] := by simp [entryFrame, mkF, argsToLocals, Value.category, maxLocals]
abbrev y40 : MethodName := ⟨"java/lang/StringUTF16", "inflate", "([BI[BII)V"⟩
theorem B41 : BI y40 "java/lang/StringUTF16" "inflate" := ⟨(plainFor_of_name pn_java_lang_StringUTF16), rfl, rfl⟩
abbrev c41 := jdk_52_method_86_code
theorem d41_0 : DC c41 0 (.iload_n 3) 1 := by decide +kernel
theorem d41_1 : DC c41 1 (.iload 4) 2 := by decide +kernel
theorem d41_3 : DC c41 3 (.aload_n 2) 1 := by decide +kernel
theorem d41_4 : DC c41 4 (.invokestatic 173) 3 := by decide +kernel
theorem ef20 {x0 : Int32} {x1 : Int32} {x2 : Addr} (m : MethodId) : entryFrame m #[(.int x0), (.int x1), (.ref x2)] 3 = mkF m 0 #[.val (.int x0), .val (.int x1), .val (.ref x2)] [] := by simp [entryFrame, mkF, argsToLocals, Value.category, maxLocals]
abbrev y41 : MethodName := ⟨"java/lang/StringUTF16", "checkBoundsOffCount", "(II[B)V"⟩
theorem B42 : BI y41 "java/lang/StringUTF16" "checkBoundsOffCount" := ⟨(plainFor_of_name pn_java_lang_StringUTF16), rfl, rfl⟩
abbrev c42 := jdk_52_method_94_code
theorem d42_0 : DC c42 0 (.iload_n 0) 1 := by decide +kernel
theorem d42_1 : DC c42 1 (.iload_n 1) 1 := by decide +kernel
theorem d42_2 : DC c42 2 (.aload_n 2) 1 := by decide +kernel
theorem d42_3 : DC c42 3 (.invokestatic 48) 3 := by decide +kernel
abbrev y42 : MethodName := ⟨"java/lang/StringUTF16", "length", "([B)I"⟩
theorem B43 : BI y42 "java/lang/StringUTF16" "length" := ⟨(plainFor_of_name pn_java_lang_StringUTF16), rfl, rfl⟩
abbrev c43 := jdk_52_method_6_code
theorem d43_0 : DC c43 0 (.aload_n 0) 1 := by decide +kernel
theorem d43_1 : DC c43 1 .arraylength 1 := by decide +kernel
theorem d43_2 : DC c43 2 (.iconst 1) 1 := by decide +kernel
theorem d43_3 : DC c43 3 .ishr 1 := by decide +kernel
theorem d43_4 : DC c43 4 .ireturn 1 := by decide +kernel
abbrev M43 := MM y42 c43 1 (some .int)
theorem pd_31 : parseMethodDescriptor "([B)I" = some ⟨[(.array .byte)], (some .int)⟩ := by decide +kernel
def u41 : WS_static Z a0 "java/lang/StringUTF16" 48 y42 c43 1 (some .int) 1 := ⟨(w225 G), (w226 G), (w26 G), (w227 G), by decide +kernel, lenN pd_31 rfl⟩
theorem d42_6 : DC c42 6 (.invokestatic 419) 3 := by decide +kernel
theorem ef21 {x0 : Int32} {x1 : Int32} {x2 : Int32} (m : MethodId) : entryFrame m #[(.int x0), (.int x1), (.int x2)] 3 = mkF m 0 #[.val (.int x0), .val (.int x1), .val (.int x2)] [] := by simp [entryFrame, mkF, argsToLocals, Value.category, maxLocals]
abbrev y43 : MethodName := ⟨"java/lang/String", "checkBoundsOffCount", "(III)I"⟩
theorem B44 : BI y43 "java/lang/String" "checkBoundsOffCount" := ⟨(plainFor_of_name pn_java_lang_String), rfl, rfl⟩
abbrev c44 := jdk_42_method_157_code
theorem d44_0 : DC c44 0 (.iload_n 0) 1 := by decide +kernel
theorem d44_1 : DC c44 1 (.iload_n 1) 1 := by decide +kernel
theorem d44_2 : DC c44 2 (.iload_n 2) 1 := by decide +kernel
theorem d44_3 : DC c44 3 (.getstatic 1053) 3 := by decide +kernel
theorem d44_6 : DC c44 6 (.invokestatic 1065) 3 := by decide +kernel
theorem ef22 {x0 : Int32} {x1 : Int32} {x2 : Int32} {x3 : Value} (r3 : x3.isRef = true) (m : MethodId) : entryFrame m #[(.int x0), (.int x1), (.int x2), x3] 4 = mkF m 0 #[.val (.int x0), .val (.int x1), .val (.int x2), .val x3] [] := by
  rcases ref_cases r3 with rfl | ⟨q3, rfl⟩ <;> first | rfl | (simp [entryFrame, mkF, argsToLocals, Value.category, maxLocals]; done)
theorem pn_jdk_internal_util_Preconditions : plainName "jdk/internal/util/Preconditions" = true := by first | decide +kernel | (simp [plainName, overriddenIn]; done)
abbrev y44 : MethodName := ⟨"jdk/internal/util/Preconditions", "checkFromIndexSize", "(IIILjava/util/function/BiFunction;)I"⟩
theorem B45 : BI y44 "jdk/internal/util/Preconditions" "checkFromIndexSize" := ⟨(plainFor_of_name pn_jdk_internal_util_Preconditions), rfl, rfl⟩
abbrev c45 := jdk_41_method_13_code
theorem d45_0 : DC c45 0 (.iload_n 2) 1 := by decide +kernel
theorem d45_1 : DC c45 1 (.iload_n 0) 1 := by decide +kernel
theorem d45_2 : DC c45 2 .ior 1 := by decide +kernel
theorem d45_3 : DC c45 3 (.iload_n 1) 1 := by decide +kernel
theorem d45_4 : DC c45 4 .ior 1 := by decide +kernel
theorem d45_5 : DC c45 5 (.ifCond .lt 10) 3 := by decide +kernel
theorem d45_8 : DC c45 8 (.iload_n 1) 1 := by decide +kernel
theorem d45_9 : DC c45 9 (.iload_n 2) 1 := by decide +kernel
theorem d45_10 : DC c45 10 (.iload_n 0) 1 := by decide +kernel
theorem d45_11 : DC c45 11 .isub 1 := by decide +kernel
theorem d45_12 : DC c45 12 (.if_icmp .le 11) 3 := by decide +kernel
theorem d45_23 : DC c45 23 (.iload_n 0) 1 := by decide +kernel
theorem d45_24 : DC c45 24 .ireturn 1 := by decide +kernel
abbrev M45 := MM y44 c45 4 (some .int)
theorem pd_32 : parseMethodDescriptor "(IIILjava/util/function/BiFunction;)I" = some ⟨[.int, .int, .int, (.object "java/util/function/BiFunction")], (some .int)⟩ := by decide +kernel
def u42 : WS_static Z a0 "java/lang/String" 1065 y44 c45 4 (some .int) 4 := ⟨(w233 G), (w234 G), (w232 G), (w235 G), by decide +kernel, lenN pd_32 rfl⟩
theorem d44_9 : DC c44 9 .ireturn 1 := by decide +kernel
abbrev M44 := MM y43 c44 3 (some .int)
theorem pd_33 : parseMethodDescriptor "(III)I" = some ⟨[.int, .int, .int], (some .int)⟩ := by decide +kernel
def u43 : WS_static Z a0 "java/lang/StringUTF16" 419 y43 c44 3 (some .int) 3 := ⟨(w228 G), (w229 G), (w3 G), (w230 G), by decide +kernel, lenN pd_33 rfl⟩
theorem d42_9 : DC c42 9 .pop 1 := by decide +kernel
theorem d42_10 : DC c42 10 .return_ 1 := by decide +kernel
abbrev M42 := MM y41 c42 3 none
theorem pd_34 : parseMethodDescriptor "(II[B)V" = some ⟨[.int, .int, (.array .byte)], none⟩ := by decide +kernel
def u44 : WS_static Z a0 "java/lang/StringUTF16" 173 y41 c42 3 none 3 := ⟨(w222 G), (w223 G), (w26 G), (w224 G), by decide +kernel, lenN pd_34 rfl⟩
theorem d41_7 : DC c41 7 (.iconst 0) 1 := by decide +kernel
theorem d41_8 : DC c41 8 (.istore 5) 2 := by decide +kernel
theorem d41_10 : DC c41 10 (.iload 5) 2 := by decide +kernel
theorem d41_12 : DC c41 12 (.iload 4) 2 := by decide +kernel
theorem d41_14 : DC c41 14 (.if_icmp .ge 27) 3 := by decide +kernel
theorem d41_41 : DC c41 41 .return_ 1 := by decide +kernel
abbrev M41 := MM y40 c41 6 none
theorem pd_35 : parseMethodDescriptor "([BI[BII)V" = some ⟨[(.array .byte), .int, (.array .byte), .int, .int], none⟩ := by decide +kernel
def u45 : WS_static Z a0 "java/lang/StringLatin1" 240 y40 c41 6 none 5 := ⟨(w219 G), (w220 G), (w26 G), (w221 G), by decide +kernel, lenN pd_35 rfl⟩
theorem d40_9 : DC c40 9 .return_ 1 := by decide +kernel
abbrev M40 := MM y39 c40 5 none
def u46 : WS_static Z a0 "java/lang/AbstractStringBuilder" 125 y39 c40 5 none 5 := ⟨(w216 G), (w217 G), (w177 G), (w218 G), by decide +kernel, lenN pd_35 rfl⟩
theorem d39_31 : DC c39 31 (.aload_n 0) 1 := by decide +kernel
theorem d39_32 : DC c39 32 (.aload_n 1) 1 := by decide +kernel
theorem d39_33 : DC c39 33 (.putfield 15) 3 := by decide +kernel
theorem d39_36 : DC c39 36 (.aload_n 0) 1 := by decide +kernel
theorem d39_37 : DC c39 37 (.iconst 1) 1 := by decide +kernel
theorem d39_38 : DC c39 38 (.putfield 22) 3 := by decide +kernel
theorem d39_41 : DC c39 41 .return_ 1 := by decide +kernel
abbrev M39 := MM y38 c39 2 none
def u47 : WS_virtual Z a0 "java/lang/AbstractStringBuilder" 195 "java/lang/StringBuilder" y38 y38 c39 2 none 0 := ⟨(w213 G), (w50 G), (w209 G), (own_decl (w210 G) (w213 G)), (w212 G), (w210 G), (nf_sel (w212 G)), by decide +kernel, lenN pd_6 rfl⟩
theorem d25_17 : DC c25 17 (.iconst 0) 1 := by decide +kernel
theorem d39_7 : DC c39 7 .return_ 1 := by decide +kernel
theorem d18_28 : DC c18 28 (.aload_n 0) 1 := by decide +kernel
theorem d18_29 : DC c18 29 (.getfield 9) 3 := by decide +kernel
theorem d18_32 : DC c18 32 (.iconst 0) 1 := by decide +kernel
theorem d18_33 : DC c18 33 (.aload_n 1) 1 := by decide +kernel
theorem d18_34 : DC c18 34 (.iload_n 2) 1 := by decide +kernel
theorem d18_35 : DC c18 35 (.aload_n 0) 1 := by decide +kernel
theorem d18_36 : DC c18 36 (.getfield 9) 3 := by decide +kernel
theorem d18_39 : DC c18 39 .arraylength 1 := by decide +kernel
theorem d18_40 : DC c18 40 (.invokestatic 106) 3 := by decide +kernel
theorem d41_17 : DC c41 17 (.aload_n 2) 1 := by decide +kernel
theorem d41_18 : DC c41 18 (.iload_n 3) 1 := by decide +kernel
theorem d41_19 : DC c41 19 (.iinc 3 1) 3 := by decide +kernel
theorem d41_22 : DC c41 22 (.aload_n 0) 1 := by decide +kernel
theorem d41_23 : DC c41 23 (.iload_n 1) 1 := by decide +kernel
theorem d41_24 : DC c41 24 (.iinc 1 1) 3 := by decide +kernel
theorem d41_27 : DC c41 27 .baload 1 := by decide +kernel
theorem d41_28 : DC c41 28 (.sipush 255) 3 := by decide +kernel
theorem d41_31 : DC c41 31 .iand 1 := by decide +kernel
theorem d41_32 : DC c41 32 (.invokestatic 111) 3 := by decide +kernel
theorem d41_35 : DC c41 35 (.iinc 5 1) 3 := by decide +kernel
theorem d41_38 : DC c41 38 (.goto (-28)) 3 := by decide +kernel
def u48 : WS_static Z a0 "java/lang/String" 106 y39 c40 5 none 5 := ⟨(w236 G), (w217 G), (w177 G), (w218 G), by decide +kernel, lenN pd_35 rfl⟩
theorem d21_41 : DC c21 41 (.getstatic 38) 3 := by decide +kernel
theorem d21_44 : DC c21 44 (.ifCond .eq 35) 3 := by decide +kernel
theorem d21_47 : DC c21 47 (.aload_n 1) 1 := by decide +kernel
theorem d21_48 : DC c21 48 (.getfield 1048) 3 := by decide +kernel
theorem d21_51 : DC c21 51 (.ifCond .eq 28) 3 := by decide +kernel
theorem d21_79 : DC c21 79 (.aload_n 0) 1 := by decide +kernel
theorem d21_80 : DC c21 80 (.iconst 1) 1 := by decide +kernel
theorem d21_81 : DC c21 81 (.putfield 15) 3 := by decide +kernel
theorem d21_84 : DC c21 84 (.aload_n 0) 1 := by decide +kernel
theorem d21_85 : DC c21 85 (.aload_n 3) 1 := by decide +kernel
theorem d21_86 : DC c21 86 (.iconst 0) 1 := by decide +kernel
theorem d21_87 : DC c21 87 (.iload 4) 2 := by decide +kernel
theorem d21_89 : DC c21 89 (.iconst 1) 1 := by decide +kernel
theorem d21_90 : DC c21 90 .ishl 1 := by decide +kernel
theorem d21_91 : DC c21 91 (.invokestatic 54) 3 := by decide +kernel
theorem d21_94 : DC c21 94 (.putfield 9) 3 := by decide +kernel
end Words
variable {h0 : Heap} {n0 : Nat} {pa1 pa2 pa3 pa4 : Addr} {pi1 pi10 pi100 pi101 pi102 pi103 pi104 pi105 pi106 pi107 pi108 pi109 pi11 pi110 pi111 pi112 pi113 pi12 pi13 pi14 pi2 pi3 pi4 pi5 pi6 pi7 pi8 pi9 : Int32} {pk1 pk2 : ClassId} {ps_pa1 ps_pa2 ps_pa3 ps_v : List Value}
def Q0 (Z : State) (b1 : Addr) (b2 : ClassId) (b3 : Int32) (b4 : List Value) (b5 b6 : Int32) (h0 : Heap) (v : Option Value) (h : Heap) (vm : Vm) : Prop := v = none ∧ ex0 Z h b1 ∧ av0 Z h b1 b2 b3 ((b4.set (b5 <<< ((1 : Int32) &&& 31)).toNatClampNeg (.int ((b6 >>> ((0 : Int32) &&& 31)).toInt8.toInt32))).set ((b5 <<< ((1 : Int32) &&& 31)) + (1 : Int32)).toNatClampNeg (.int ((b6 >>> ((8 : Int32) &&& 31)).toInt8.toInt32)))
theorem rm_putChar (G : GL l Z a0 zc fmt kpp) (F0 : ex0 Z h0 pa1) (F1 : av0 Z h0 pa1 pk1 pi3 ps_v) (jA : ¬ (pi1 <<< ((1 : Int32) &&& 31)) < 0 ∧ (pi1 <<< ((1 : Int32) &&& 31)) < pi3) (jB : ¬ ((pi1 <<< ((1 : Int32) &&& 31)) + (1 : Int32)) < 0 ∧ ((pi1 <<< ((1 : Int32) &&& 31)) + (1 : Int32)) < pi3) (lA : (pi1 <<< ((1 : Int32) &&& 31)).toNatClampNeg < ps_v.length) (lB : ((pi1 <<< ((1 : Int32) &&& 31)) + (1 : Int32)).toNatClampNeg < ps_v.length) (ne : n0 ≤ pa1) : M0 l Z 0 0 0 0 #[.ref pa1, .int pi1, .int pi2] h0 n0 [pa1] [pa1] (Q0 Z pa1 pk1 pi3 ps_v pi1 pi2 h0) := by
  refine mi B0 ef0 (hEW G) fun s X0 hsf0 n0le => ?_
  have := F0.l
  have sf_pa1 := hsf0 pa1 (by simp)
  refine oG 3 X0 (w203 G) Via.refl ((sg4 G).ext X0.old.2) d0_0 rfl ?_
  intro _ X2
  refine oy 28 X2 d0_3 (by decide) ((if0 _ _).trans (feq (by decide)).2) <| oI 29 X2 d0_28 rfl rfl <| oc 30 (v := 1) X2 d0_29 rfl (by decide) <| o_ishl 31 (v := (pi1 <<< ((1 : Int32) &&& 31))) X2 d0_30 rfl rfl <| oT 32 (l' := #[rr pa1, ii (pi1 <<< ((1 : Int32) &&& 31)), ii pi2]) X2 d0_31 rfl rfl <| oA 33 X2 d0_32 rfl rfl <| oI 34 X2 d0_33 rfl rfl <| oJ 37 ((pi1 <<< ((1 : Int32) &&& 31)) + (1 : Int32)) #[rr pa1, ii ((pi1 <<< ((1 : Int32) &&& 31)) + (1 : Int32)), ii pi2] X2 d0_34 rfl rfl rfl rfl <| oI 38 X2 d0_37 rfl rfl <| oG 41 X2 (w204 G) Via.refl ((sg2 G).ext X2.old.2) d0_38 rfl ?_
  intro _ X4
  refine o_ishr 42 (v := (pi2 >>> ((0 : Int32) &&& 31))) X4 d0_41 rfl rfl <| o_i2b 43 (v := ((pi2 >>> ((0 : Int32) &&& 31)).toInt8.toInt32)) X4 d0_42 rfl rfl <| o_stB 44 (i := (pi1 <<< ((1 : Int32) &&& 31)).toNatClampNeg) (y := ((pi2 >>> ((0 : Int32) &&& 31)).toInt8.toInt32)) X4 F1 jA rfl lA (own_narB _) d0_43 rfl (by omega) (Or.inl (by simp)) sf_pa1 ?_
  rintro _ _ X5 ⟨_, _, W5⟩ C5 V5
  have := W5.size
  refine oA 45 X5 d0_44 rfl rfl <| oI 46 X5 d0_45 rfl rfl <| oI 47 X5 d0_46 rfl rfl <| oG 50 X5 (w205 G) Via.refl ((sg3 G).ext X5.old.2) d0_47 rfl ?_
  intro _ X7
  refine o_ishr 51 (v := (pi2 >>> ((8 : Int32) &&& 31))) X7 d0_50 rfl rfl <| o_i2b 52 (v := ((pi2 >>> ((8 : Int32) &&& 31)).toInt8.toInt32)) X7 d0_51 rfl rfl ?_
  have f9 := C5.safe (own_lt (by omega)) sf_pa1
  refine o_stB 53 (i := ((pi1 <<< ((1 : Int32) &&& 31)) + (1 : Int32)).toNatClampNeg) (y := ((pi2 >>> ((8 : Int32) &&& 31)).toInt8.toInt32)) X7 V5 jB rfl (by rw [List.length_set]; exact lB) (own_narB _) d0_52 rfl (by omega) (Or.inl (by simp)) f9 ?_
  rintro _ _ X8 ⟨_, _, W8⟩ _ V8
  have := W8.size
  have f10 := (F0.wr W5).wr W8
  exact oz X8 d0_53 rfl (by decide) (by decide) (fun _ CC => ⟨rfl, f10, V8⟩)
def Q1 (Z : State) (b1 b2 : Int32) (h0 : Heap) (v : Option Value) (h : Heap) (vm : Vm) : Prop := v = some (.int ((((b1 &&& (255 : Int32)) <<< ((0 : Int32) &&& 31)) ||| ((b2 &&& (255 : Int32)) <<< ((8 : Int32) &&& 31))).toUInt32.toUInt16.toUInt32.toInt32))
theorem rm_getChar (G : GL l Z a0 zc fmt kpp) (F0 : av0 Z h0 pa1 pk1 pi3 ps_v) (jA : ¬ (pi1 <<< ((1 : Int32) &&& 31)) < 0 ∧ (pi1 <<< ((1 : Int32) &&& 31)) < pi3) (jB : ¬ ((pi1 <<< ((1 : Int32) &&& 31)) + (1 : Int32)) < 0 ∧ ((pi1 <<< ((1 : Int32) &&& 31)) + (1 : Int32)) < pi3) (gA : ps_v.getD (pi1 <<< ((1 : Int32) &&& 31)).toNatClampNeg (.int (0 : Int32)) = .int pi4) (gB : ps_v.getD ((pi1 <<< ((1 : Int32) &&& 31)) + (1 : Int32)).toNatClampNeg (.int (0 : Int32)) = .int pi5) : M1 l Z 0 0 0 0 #[.ref pa1, .int pi1] h0 n0 [] [] (Q1 Z pi4 pi5 h0) := by
  refine mi B1 ef1 (hEW G) fun s X0 hsf0 n0le => ?_
  have := F0.l
  refine oG 3 X0 (w203 G) Via.refl ((sg4 G).ext X0.old.2) d1_0 rfl ?_
  intro _ X2
  refine oy 28 X2 d1_3 (by decide) ((if0 _ _).trans (feq (by decide)).2) <| oI 29 X2 d1_28 rfl rfl <| oc 30 (v := 1) X2 d1_29 rfl (by decide) <| o_ishl 31 (v := (pi1 <<< ((1 : Int32) &&& 31))) X2 d1_30 rfl rfl <| oT 32 (l' := #[rr pa1, ii (pi1 <<< ((1 : Int32) &&& 31))]) X2 d1_31 rfl rfl <| oA 33 X2 d1_32 rfl rfl <| oI 34 X2 d1_33 rfl rfl <| oJ 37 ((pi1 <<< ((1 : Int32) &&& 31)) + (1 : Int32)) #[rr pa1, ii ((pi1 <<< ((1 : Int32) &&& 31)) + (1 : Int32))] X2 d1_34 rfl rfl rfl rfl <| oB 38 (v := (.int pi4)) X2 F0 jA gA d1_37 rfl <| o_sipush 41 (v := 255) X2 d1_38 rfl (by decide) <| o_iand 42 (v := (pi4 &&& (255 : Int32))) X2 d1_41 rfl rfl <| oG 45 X2 (w204 G) Via.refl ((sg2 G).ext X2.old.2) d1_42 rfl ?_
  intro _ X4
  refine o_ishl 46 (v := ((pi4 &&& (255 : Int32)) <<< ((0 : Int32) &&& 31))) X4 d1_45 rfl rfl <| oA 47 X4 d1_46 rfl rfl <| oI 48 X4 d1_47 rfl rfl <| oB 49 (v := (.int pi5)) X4 F0 jB gB d1_48 rfl <| o_sipush 52 (v := 255) X4 d1_49 rfl (by decide) <| o_iand 53 (v := (pi5 &&& (255 : Int32))) X4 d1_52 rfl rfl <| oG 56 X4 (w205 G) Via.refl ((sg3 G).ext X4.old.2) d1_53 rfl ?_
  intro _ X6
  refine o_ishl 57 (v := ((pi5 &&& (255 : Int32)) <<< ((8 : Int32) &&& 31))) X6 d1_56 rfl rfl <| o_ior 58 (v := (((pi4 &&& (255 : Int32)) <<< ((0 : Int32) &&& 31)) ||| ((pi5 &&& (255 : Int32)) <<< ((8 : Int32) &&& 31)))) X6 d1_57 rfl rfl <| o_i2c 59 (v := ((((pi4 &&& (255 : Int32)) <<< ((0 : Int32) &&& 31)) ||| ((pi5 &&& (255 : Int32)) <<< ((8 : Int32) &&& 31))).toUInt32.toUInt16.toUInt32.toInt32)) X6 d1_58 rfl rfl ?_
  exact o_nret (y := ((((pi4 &&& (255 : Int32)) <<< ((0 : Int32) &&& 31)) ||| ((pi5 &&& (255 : Int32)) <<< ((8 : Int32) &&& 31))).toUInt32.toUInt16.toUInt32.toInt32)) (t := .char) X6 d1_59 rfl (own_nc2 rfl) (by simp) (by decide) (by decide) (fun _ CC => rfl)
def Q2 (Z : State) (b1 : Addr) (h0 : Heap) (v : Option Value) (h : Heap) (vm : Vm) : Prop := ∃ (xa1 : Addr) (xk1 : ClassId), v = none ∧ ex1 Z h b1 ∧ fd1 Z h b1 (.int 0) ∧ fd0 Z h b1 (.ref xa1) ∧ av0 Z h xa1 xk1 0 [] ∧ h.size > xa1
theorem rm_au0 (G : GL l Z a0 zc fmt kpp) (F0 : ex1 Z h0 pa1) (F1 : fd1 Z h0 pa1 (.int pi2)) (F2 : fd0 Z h0 pa1 .null) (F3 : ex2 Z h0 pa2) (pc_0 : pi1 = (0 : Int32)) (ne : NE pa1 pa2 ∧ n0 ≤ pa1) : M4 l Z 1 4 8 12 #[.ref pa1, .ref pa2, .int pi102, .int pi1, .null] h0 n0 [pa1] [pa1] (Q2 Z pa1 h0) := by
  have hw := G.1
  refine mi B4 ef4 (hEW G) fun s X0 hsf0 n0le => ?_
  have := F0.l
  have := F3.l
  have sf_pa1 := hsf0 pa1 (by simp)
  refine oA 1 X0 d4_0 rfl rfl <| o_initO 4 (W := 0) X0 (w12 G) (w13 G) (w14 G) rfl (by decide) (Nat.le_of_eq rfl) (by decide) d4_1 rfl ?_
  intro _ X2
  refine oI 5 X2 d4_4 rfl rfl <| on 8 X2 d4_5 rfl ((if0 _ _).trans (teq pc_0).2) <| oA 9 X2 d4_8 rfl rfl <| o_ldcC 11 (n := 0) (vs := own_bs ([] : List Int32)) (z := (0 : Int32)) X2 (w15 G) (hws_str hw) (by decide) ⟨by decide, rfl⟩ (by decide) (by decide) d4_9 rfl (by decide) (by decide) (by decide) (by decide) ?_
  intro a3 b3 kb3 _ h3 _ X3 E3 C3 Es3 _ Vs3 As3 SF3
  have lta3 : h3.size > a3 := Es3.lt
  have ltb3 : h3.size > b3 := As3.lt
  have := E3.1
  have Bs3 : av0 Z h3 b3 kb3 0 [] := As3
  have f5 := C3.safe (own_lt (by omega)) sf_pa1
  have := own_nes (SF3 pa1 f5)
  have f7 := F3.ext E3
  have := own_nes (SF3 pa2 (sx X3 f7 nc0))
  refine oF 14 X3 (w21 G) Via.refl Vs3 d4_11 rfl ?_
  intro _ X9
  have f10 := F2.ext E3
  have f11 := F0.ext E3
  refine oP 17 (v' := (.ref b3)) X9 (w21 G) Via.refl f10 f11 (Or.inr ⟨(w17 G), rfl, rfl⟩) (w2 G) fd_0 rfl rfl d4_14 rfl (by omega) (Or.inl (by simp)) f5 ?_
  intro _ _ X12 W12 C12
  have := W12.size
  have f13 := f10.same W12
  refine oA 18 X12 d4_17 rfl rfl <| o_ldcC 20 (n := 0) (vs := own_bs ([] : List Int32)) (z := (0 : Int32)) X12 (w15 G) (hws_str hw) (by decide) ⟨by decide, rfl⟩ (by decide) (by decide) d4_18 rfl (by decide) (by decide) (by decide) (by decide) ?_
  intro a14 b14 kb14 _ h14 _ X14 E14 C14 Es14 Cs14 _ As14 SF14
  have lta14 : h14.size > a14 := Es14.lt
  have ltb14 : h14.size > b14 := As14.lt
  have := E14.1
  have Bs14 : av0 Z h14 b14 kb14 0 [] := As14
  have f16 := C14.safe (own_lt (by omega)) (C12.safe (own_lt (by omega)) f5)
  have := own_nes (SF14 pa1 f16)
  have f18 := (f7.wr W12).ext E14
  have := own_nes (SF14 pa2 (sx X14 f18 nc0))
  refine oF 23 X14 (w22 G) Via.refl Cs14 d4_20 rfl ?_
  intro _ X20
  have f21 := ((F1.ext E3).other W12 (Or.inr (sn0 G))).ext E14
  have f22 := (f11.wr W12).ext E14
  refine oP 26 (v' := (.int 0)) X20 (w22 G) Via.refl f21 f22 (Or.inr ⟨(w18 G), rfl, rfl⟩) (w2 G) fd_1 rfl rfl d4_23 rfl (by omega) (Or.inl (by simp)) f16 ?_
  intro _ _ X23 W23 _
  have := W23.size
  have f24 := f21.same W23
  have f25 := f22.wr W23
  have f26 := (f13.ext E14).other W23 (Or.inr (sn1 G))
  have f27 := ((Bs3.oth W12 (by omega)).ext E14).oth W23 (by omega)
  exact oz X23 d4_26 rfl (by decide) (by decide) (fun _ CC => ⟨b3, kb3, rfl, f25, f24, f26, f27, (by omega)⟩)
theorem rm_au1 (G : GL l Z a0 zc fmt kpp) (F0 : ex1 Z h0 pa1) (F1 : fd1 Z h0 pa1 (.int pi100)) (F2 : fd0 Z h0 pa1 .null) (F3 : av1 Z h0 pa2 pk1 pi101 ps_pa2) (F4 : ex2 Z h0 pa2) (pc_0 : pi101 = (0 : Int32)) (ne : NE pa1 pa2 ∧ n0 ≤ pa1) : M3 l Z 2 4 8 29 #[.ref pa1, .ref pa2] h0 n0 [pa1] [pa1] (Q2 Z pa1 h0) := by
  refine mi B3 ef3 (hEW G) fun s X0 hsf0 n0le => ?_
  have := F0.l
  have := F3.l
  have sf_pa1 := hsf0 pa1 (by simp)
  refine oA 1 X0 d3_0 rfl rfl <| oA 2 X0 d3_1 rfl rfl <| oc 3 (v := 0) X0 d3_2 rfl (by decide) <| oA 4 X0 d3_3 rfl rfl <| oL 5 X0 F3 d3_4 rfl <| o_aconstNull 6 X0 d3_5 rfl <| mP 9 0 X0 (rm_au0 G F0 F1 F2 F4 pc_0 (by omega)) (u0 G) (sS (by omega) sf_pa1 all0) d3_6 rfl rfl rfl lr (by decide) (aI (by omega) (by simp) all0) ?_
  rintro _ _ _ _ X1 ⟨xa1_2, xk1_3, rfl, q4, q5, q6, q7, _⟩ _ _ _
  exact oz X1 d3_9 rfl (by decide) (by decide) (fun _ CC => ⟨xa1_2, xk1_3, rfl, q4, q5, q6, q7, (by omega)⟩)
def Q3 (Z : State) (b1 : Addr) (b2 : ClassId) (h0 : Heap) (v : Option Value) (h : Heap) (vm : Vm) : Prop := v = some (.int 2) ∧ av0 Z h b1 b2 2 [.int 47, .int 42] ∧ ex0 Z h b1
theorem rm_au2 (G : GL l Z a0 zc fmt kpp) (F0 : av1 Z h0 pa1 pk1 2 [.int 47, .int 42]) (F1 : av0 Z h0 pa2 pk2 2 [i0, i0]) (F2 : ex0 Z h0 pa2) (ne : NE pa1 pa2 ∧ n0 ≤ pa2) : M6 l Z 0 0 0 0 #[.ref pa1, i0, .ref pa2, i0, .int 2] h0 n0 [pa2] [pa2] (Q3 Z pa2 pk2 h0) := by
  refine mi B6 ef6 (hEW G) fun s X0 hsf0 n0le => ?_
  have := F0.l
  have := F1.l
  have sf_pa2 := hsf0 pa2 (by simp)
  refine oc 1 (v := 0) X0 d6_0 rfl (by decide) <| oS 3 (l' := #[rr pa1, ii 0, rr pa2, ii 0, ii 2, ii 0, uu]) X0 d6_1 rfl rfl <| oi 5 X0 d6_3 rfl rfl <| oi 7 X0 d6_5 rfl rfl <| oN 10 X0 d6_7 rfl (tlt (by decide)).2.1 <| oA 11 X0 d6_10 rfl rfl <| oI 12 X0 d6_11 rfl rfl <| oC 13 (v := (.int 47)) X0 F0 ⟨by decide, by decide⟩ rfl d6_12 rfl <| oS 15 (l' := #[rr pa1, ii 0, rr pa2, ii 0, ii 2, ii 0, ii 47]) X0 d6_13 rfl rfl <| oi 17 X0 d6_15 rfl rfl <| o_sipush 20 (v := 255) X0 d6_17 rfl (by decide) <| oY 26 X0 d6_20 (by decide) (flt (by decide)).2.2.2 ?_
  refine oA 27 X0 d6_26 rfl rfl <| oI 28 X0 d6_27 rfl rfl <| oi 30 X0 d6_28 rfl rfl <| o_i2b 31 (v := 47) X0 d6_30 rfl (by decide) <| sB 32 0 47 X0 F1 (by decide) (lb rfl) (by decide) d6_31 rfl (by omega) (Or.inl (by simp)) sf_pa2 ?_
  rintro _ _ X1 ⟨_, _, W1⟩ C1 V1
  have := W1.size
  have V2 := V1.as [.int 47, i0] rfl
  refine oJ 35 1 #[rr pa1, ii 1, rr pa2, ii 0, ii 2, ii 0, ii 47] X1 d6_32 rfl rfl (by decide) rfl <| oJ 38 1 #[rr pa1, ii 1, rr pa2, ii 1, ii 2, ii 0, ii 47] X1 d6_35 rfl rfl (by decide) rfl <| oJ 41 1 #[rr pa1, ii 1, rr pa2, ii 1, ii 2, ii 1, ii 47] X1 d6_38 rfl rfl (by decide) rfl <| og 3 X1 d6_41 (by decide) <| oi 5 X1 d6_3 rfl rfl <| oi 7 X1 d6_5 rfl rfl <| oN 10 X1 d6_7 rfl (tlt (by decide)).2.1 <| oA 11 X1 d6_10 rfl rfl <| oI 12 X1 d6_11 rfl rfl ?_
  have f3 := F0.oth W1 (by omega)
  refine oC 13 (v := (.int 42)) X1 f3 ⟨by decide, by decide⟩ rfl d6_12 rfl <| oS 15 (l' := #[rr pa1, ii 1, rr pa2, ii 1, ii 2, ii 1, ii 42]) X1 d6_13 rfl rfl <| oi 17 X1 d6_15 rfl rfl <| o_sipush 20 (v := 255) X1 d6_17 rfl (by decide) <| oY 26 X1 d6_20 (by decide) (flt (by decide)).2.2.2 <| oA 27 X1 d6_26 rfl rfl <| oI 28 X1 d6_27 rfl rfl <| oi 30 X1 d6_28 rfl rfl <| o_i2b 31 (v := 42) X1 d6_30 rfl (by decide) ?_
  have f5 := C1.safe (own_lt (by omega)) sf_pa2
  refine sB 32 1 42 X1 V2 (by decide) (lb rfl) (by decide) d6_31 rfl (by omega) (Or.inl (by simp)) f5 ?_
  rintro _ _ X4 ⟨_, _, W4⟩ _ V4
  have := W4.size
  have V6 := V4.as [.int 47, .int 42] rfl
  refine oJ 35 2 #[rr pa1, ii 2, rr pa2, ii 1, ii 2, ii 1, ii 42] X4 d6_32 rfl rfl (by decide) rfl <| oJ 38 2 #[rr pa1, ii 2, rr pa2, ii 2, ii 2, ii 1, ii 42] X4 d6_35 rfl rfl (by decide) rfl <| oJ 41 2 #[rr pa1, ii 2, rr pa2, ii 2, ii 2, ii 2, ii 42] X4 d6_38 rfl rfl (by decide) rfl <| og 3 X4 d6_41 (by decide) <| oi 5 X4 d6_3 rfl rfl <| oi 7 X4 d6_5 rfl rfl <| oY 44 X4 d6_7 (by decide) (flt (by decide)).2.1 <| oi 46 X4 d6_44 rfl rfl ?_
  have f7 := (F2.wr W1).wr W4
  exact o_iret X4 d6_46 rfl (by decide) (by decide) (fun _ CC => ⟨rfl, V6, f7⟩)
def Q4 (Z : State) (h0 : Heap) (v : Option Value) (h : Heap) (vm : Vm) : Prop := ∃ (xa1 : Addr) (xk1 : ClassId), v = some (.ref xa1) ∧ av0 Z h xa1 xk1 2 [.int 47, .int 42] ∧ ex0 Z h xa1 ∧ Safe Z EL0 vm h xa1 ∧ h0.size ≤ xa1 ∧ h.size > xa1
theorem rm_au3 (G : GL l Z a0 zc fmt kpp) (F0 : av1 Z h0 pa1 pk1 2 [.int 47, .int 42]) : M5 l Z 1 1 2 18 #[.ref pa1, i0, .int 2] h0 n0 [] [] (Q4 Z  h0) := by
  refine mi B5 ef5 (hEW G) fun s X0 hsf0 n0le => ?_
  have l1 := F0.l
  refine oI 1 X0 d5_0 rfl rfl <| nP (aty := .byte) 3 2 X0 (w16 G) d5_1 rfl (by decide) had_byte ?_
  intro _ h1 b1 k1 X1 _ l1 E1 V1 A1 _ S1
  have V2 : av0 Z h1 b1 k1 2 [i0, i0] := V1.pad (pad_rep [] (.int (0 : Int32)) 2)
  refine oV 4 (l' := #[rr pa1, ii 0, ii 2, rr b1, uu, uu]) X1 d5_3 rfl rfl rfl <| oA 5 X1 d5_4 rfl rfl <| oI 6 X1 d5_5 rfl rfl <| oA 7 X1 d5_6 rfl rfl <| oc 8 (v := 0) X1 d5_7 rfl (by decide) <| oI 9 X1 d5_8 rfl rfl ?_
  have f3 := F0.ext E1
  refine mS 12 0 X1 (rm_au2 G f3 V2 A1 (by omega)) (u2 G) (sS (by omega) S1 all0) d5_9 rfl rfl rfl lr (by decide) (aR (by omega) all0) ?_
  rintro _ _ _ _ X4 ⟨rfl, q5, q6⟩ _ _ C4
  refine oS 14 (l' := #[rr pa1, ii 0, ii 2, rr b1, ii 2, uu]) X4 d5_12 rfl rfl <| oi 16 X4 d5_14 rfl rfl <| oI 17 X4 d5_16 rfl rfl <| oY 57 X4 d5_17 (by decide) (teq (by decide)).1 <| oA 58 X4 d5_57 rfl rfl ?_
  have f7 := C4.safe (own_lt (by omega)) S1
  exact oR X4 d5_58 rfl rfl rfl (by decide) (by decide) (fun _ CC => ⟨b1, k1, rfl, q5, q6, (CC.safe (own_lt (by omega)) f7), by omega⟩)
def Q5 (Z : State) (h0 : Heap) (v : Option Value) (h : Heap) (vm : Vm) : Prop := v = some (.int 0)
theorem rm_au4 (G : GL l Z a0 zc fmt kpp) (F0 : av0 Z h0 pa1 pk1 2 ps_pa1) : M7 l Z 0 0 0 0 #[.ref pa1, .int 2] h0 n0 [] [] (Q5 Z  h0) := by
  refine mi B7 ef1 (hEW G) fun s X0 hsf0 n0le => ?_
  have := F0.l
  refine oI 1 X0 d7_0 rfl rfl <| oA 2 X0 d7_1 rfl rfl <| oL 3 X0 F0 d7_2 rfl <| o_isub 4 (v := 0) X0 d7_3 rfl (by decide) <| ob 6 (v := 31) X0 d7_4 rfl (by decide) <| o_iushr 7 (v := 0) X0 d7_6 rfl (by decide) <| o_i2b 8 (v := 0) X0 d7_7 rfl (by decide) ?_
  exact o_nret (y := (0 : Int32)) (t := .byte) X0 d7_8 rfl (by decide) (by simp) (by decide) (by decide) (fun _ CC => rfl)
def Q6 (Z : State) (b1 : Addr) (h0 : Heap) (v : Option Value) (h : Heap) (vm : Vm) : Prop := ∃ (xa1 : Addr) (xk1 : ClassId), v = none ∧ ex1 Z h b1 ∧ fd1 Z h b1 (.int 0) ∧ fd0 Z h b1 (.ref xa1) ∧ av0 Z h xa1 xk1 2 [.int 47, .int 42] ∧ ex0 Z h xa1 ∧ Safe Z EL0 vm h xa1 ∧ h0.size ≤ xa1 ∧ h.size > xa1
theorem rm_au5 (G : GL l Z a0 zc fmt kpp) (F0 : ex1 Z h0 pa1) (F1 : fd1 Z h0 pa1 (.int 0)) (F2 : fd0 Z h0 pa1 .null) (F3 : av1 Z h0 pa2 pk1 2 [.int 47, .int 42]) (ne : NE pa1 pa2 ∧ n0 ≤ pa1) : M4 l Z 2 1 2 35 #[.ref pa1, .ref pa2, i0, .int 2, .null] h0 n0 [pa1] [pa1] (Q6 Z pa1 h0) := by
  refine mi B4 ef4 (hEW G) fun s X0 hsf0 n0le => ?_
  have := F0.l
  have := F3.l
  have sf_pa1 := hsf0 pa1 (by simp)
  refine oA 1 X0 d4_0 rfl rfl <| o_initO 4 (W := 0) X0 (w12 G) (w13 G) (w14 G) rfl (by decide) (Nat.le_of_eq rfl) (by decide) d4_1 rfl ?_
  intro _ X2
  refine oI 5 X2 d4_4 rfl rfl <| oy 27 X2 d4_5 (by decide) ((if0 _ _).trans (feq (by decide)).2) <| oG 30 X2 (w23 G) Via.refl ((sg5 G).ext X2.old.2) d4_27 rfl ?_
  intro _ X4
  refine on 33 X4 d4_30 rfl ((if0 _ _).trans (feq (hzc G)).1) <| oA 34 X4 d4_33 rfl rfl <| oI 35 X4 d4_34 rfl rfl <| oI 36 X4 d4_35 rfl rfl <| mS 39 0 X4 (rm_au3 G F3) (u3 G) all0 d4_36 rfl rfl rfl lr (by decide) all0 ?_
  rintro _ _ _ _ X5 ⟨xa1_6, xk1_7, rfl, q8, q9, q10, _⟩ K5 _ C5
  refine oU 41 (l' := #[rr pa1, rr pa2, ii 0, ii 2, .val .null, rr xa1_6]) X5 d4_39 rfl rfl rfl <| oA 42 X5 d4_41 rfl rfl <| oa 44 X5 d4_42 rfl rfl <| oI 45 X5 d4_44 rfl rfl <| mS 48 1 X5 (rm_au4 G q8) (u4 G) all0 d4_45 rfl rfl rfl lr (by decide) all0 ?_
  rintro _ _ _ _ X12 rfl K12 _ C12
  have f13 := (F1.k0 K5).k0 K12
  have f14 := (F0.keep K5).keep K12
  have f16 := C12.safe (own_lt (by omega)) (C5.safe (own_lt (by omega)) sf_pa1)
  refine oP 51 (v' := (.int 0)) X12 (w22 G) Via.refl f13 f14 (Or.inr ⟨(w18 G), rfl, rfl⟩) (w2 G) fd_1 rfl rfl d4_48 rfl (by omega) (Or.inl (by simp)) f16 ?_
  intro _ _ X15 W15 C15
  have := W15.size
  have f17 := f13.same W15
  refine oA 52 X15 d4_51 rfl rfl <| oa 54 X15 d4_52 rfl rfl ?_
  have f18 := ((F2.k0 K5).k0 K12).other W15 (Or.inr (sn1 G))
  have f19 := f14.wr W15
  have f21 := C15.safe (own_lt (by omega)) f16
  refine oP 57 (v' := (.ref xa1_6)) X15 (w21 G) Via.refl f18 f19 (Or.inr ⟨(w17 G), rfl, rfl⟩) (w2 G) fd_0 rfl rfl d4_54 rfl (by omega) (Or.inl (by simp)) f21 ?_
  intro _ _ X20 W20 C20
  have := W20.size
  have f22 := f18.same W20
  have f23 := f19.wr W20
  have f24 := f17.other W20 (Or.inr (sn0 G))
  have f25 := ((q8.k0 K12).oth W15 (by omega)).oth W20 (by omega)
  have f26 := ((q9.keep K12).wr W15).wr W20
  have f27 := C20.safe (own_lt (by omega)) (C15.safe (own_lt (by omega)) (C12.safe (own_lt (by omega)) q10))
  exact oz X20 d4_57 rfl (by decide) (by decide) (fun _ CC => ⟨xa1_6, xk1_7, rfl, f23, f24, f22, f25, f26, (CC.safe (own_lt (by omega)) f27), by omega⟩)
theorem rm_au6 (G : GL l Z a0 zc fmt kpp) (F0 : ex1 Z h0 pa1) (F1 : fd1 Z h0 pa1 (.int 0)) (F2 : fd0 Z h0 pa1 .null) (F3 : av1 Z h0 pa2 pk1 2 [.int 47, .int 42]) (ne : NE pa1 pa2 ∧ n0 ≤ pa1) : M3 l Z 3 1 2 52 #[.ref pa1, .ref pa2] h0 n0 [pa1] [pa1] (Q6 Z pa1 h0) := by
  refine mi B3 ef3 (hEW G) fun s X0 hsf0 n0le => ?_
  have := F0.l
  have := F3.l
  have sf_pa1 := hsf0 pa1 (by simp)
  refine oA 1 X0 d3_0 rfl rfl <| oA 2 X0 d3_1 rfl rfl <| oc 3 (v := 0) X0 d3_2 rfl (by decide) <| oA 4 X0 d3_3 rfl rfl <| oL 5 X0 F3 d3_4 rfl <| o_aconstNull 6 X0 d3_5 rfl <| mP 9 0 X0 (rm_au5 G F0 F1 F2 F3 (by omega)) (u0 G) (sS (by omega) sf_pa1 all0) d3_6 rfl rfl rfl lr (by decide) (aI (by omega) (by simp) all0) ?_
  rintro _ _ _ _ X1 ⟨xa1_2, xk1_3, rfl, q4, q5, q6, q7, q8, q9, _⟩ _ _ _
  exact oz X1 d3_9 rfl (by decide) (by decide) (fun _ CC => ⟨xa1_2, xk1_3, rfl, q4, q5, q6, q7, q8, (CC.safe (own_lt (by omega)) q9), by omega⟩)
def Q7 (Z : State) (b1 : Addr) (b2 b3 : Int32) (h0 : Heap) (v : Option Value) (h : Heap) (vm : Vm) : Prop := ∃ (xa1 : Addr) (xk1 : ClassId), v = none ∧ ex3 Z h b1 ∧ fd6 Z h b1 (.int 0) ∧ fd7 Z h b1 (.int b2) ∧ fd8 Z h b1 (.int b3) ∧ fd5 Z h b1 (.ref xa1) ∧ av0 Z h xa1 xk1 16 [i0, i0, i0, i0, i0, i0, i0, i0, i0, i0, i0, i0, i0, i0, i0, i0] ∧ ex0 Z h xa1 ∧ Safe Z EL0 vm h xa1 ∧ h0.size ≤ xa1 ∧ h.size > xa1
theorem rm_au7 (G : GL l Z a0 zc fmt kpp) (F0 : ex3 Z h0 pa1) (F1 : fd6 Z h0 pa1 (.int pi1)) (F2 : fd7 Z h0 pa1 (.int pi2)) (F3 : fd8 Z h0 pa1 (.int pi3)) (F4 : fd5 Z h0 pa1 .null) (ne : n0 ≤ pa1) : M10 l Z 1 1 16 12 #[.ref pa1, .int 16] h0 n0 [pa1] [] (Q7 Z pa1 pi2 pi3 h0) := by
  refine mi B10 ef1 (hEW G) fun s X0 hsf0 n0le => ?_
  have := F0.l
  refine oA 1 X0 d10_0 rfl rfl <| o_initO 4 (W := 0) X0 (w52 G) (w13 G) (w14 G) rfl (by decide) (Nat.le_of_eq rfl) (by decide) d10_1 rfl ?_
  intro _ X2
  refine oG 7 X2 (w53 G) Via.refl ((sg5 G).ext X2.old.2) d10_4 rfl ?_
  intro _ X4
  refine on 10 X4 d10_7 rfl ((if0 _ _).trans (feq (hzc G)).1) <| oA 11 X4 d10_10 rfl rfl <| oI 12 X4 d10_11 rfl rfl <| nP (aty := .byte) 14 16 X4 (w16 G) d10_12 rfl (by decide) had_byte ?_
  intro _ h5 b5 k5 X5 _ _ E5 V5 A5 _ S5
  have V6 : av0 Z h5 b5 k5 16 [i0, i0, i0, i0, i0, i0, i0, i0, i0, i0, i0, i0, i0, i0, i0, i0] := V5.pad (pad_rep [] (.int (0 : Int32)) 16)
  have f7 := F4.ext E5
  have f8 := F0.ext E5
  refine oP 17 (v' := (.ref b5)) X5 (w54 G) Via.refl f7 f8 (Or.inl (w55 G)) (w41 G) fd_0 rfl rfl d10_14 rfl (by omega) (Or.inl (by simp)) (sx X5 f8 nc1) ?_
  intro _ _ X9 W9 C9
  have := W9.size
  have f10 := f7.same W9
  refine oA 18 X9 d10_17 rfl rfl <| oc 19 (v := 0) X9 d10_18 rfl (by decide) ?_
  have f11 := (F1.ext E5).other W9 (Or.inr (sn2 G))
  have f12 := f8.wr W9
  refine oP 22 (v' := (.int 0)) X9 (w56 G) Via.refl f11 f12 (Or.inl (w57 G)) (w41 G) fd_1 rfl rfl d10_19 rfl (by omega) (Or.inl (by simp)) (sx X9 f12 nc1) ?_
  intro _ _ X13 W13 C13
  have := W13.size
  have f14 := f11.same W13
  refine og 38 X13 d10_22 (by decide) ?_
  have f15 := f12.wr W13
  have f16 := ((F2.ext E5).other W9 (Or.inr (sn3 G))).other W13 (Or.inr (sn4 G))
  have f17 := ((F3.ext E5).other W9 (Or.inr (sn5 G))).other W13 (Or.inr (sn6 G))
  have f18 := f10.other W13 (Or.inr (sn7 G))
  have f19 := (V6.oth W9 (by omega)).oth W13 (by omega)
  have f20 := (A5.wr W9).wr W13
  have f21 := C13.safe (own_lt (by omega)) (C9.safe (own_lt (by omega)) S5)
  exact oz X13 d10_38 rfl (by decide) (by decide) (fun _ CC => ⟨b5, k5, rfl, f15, f14, f16, f17, f18, f19, f20, (CC.safe (own_lt (by omega)) f21), by omega⟩)
theorem rm_au8 (G : GL l Z a0 zc fmt kpp) (F0 : ex3 Z h0 pa1) (F1 : fd6 Z h0 pa1 (.int pi100)) (F2 : fd7 Z h0 pa1 (.int pi101)) (F3 : fd8 Z h0 pa1 (.int pi102)) (F4 : fd5 Z h0 pa1 .null) (ne : n0 ≤ pa1) : M9 l Z 2 1 16 25 #[.ref pa1] h0 n0 [pa1] [] (Q7 Z pa1 pi101 pi102 h0) := by
  refine mi B9 ef7 (hEW G) fun s X0 hsf0 n0le => ?_
  have := F0.l
  refine oA 1 X0 d9_0 rfl rfl <| ob 3 (v := 16) X0 d9_1 rfl (by decide) <| mP 6 0 X0 (rm_au7 G F0 F1 F2 F3 F4 (by omega)) (u5 G) all0 d9_3 rfl rfl rfl lr (by decide) (aI (by omega) (by simp) all0) ?_
  rintro _ _ _ _ X1 ⟨xa1_2, xk1_3, rfl, q4, q5, q6, q7, q8, q9, q10, q11, _⟩ _ _ _
  exact oz X1 d9_6 rfl (by decide) (by decide) (fun _ CC => ⟨xa1_2, xk1_3, rfl, q4, q5, q6, q7, q8, q9, q10, (CC.safe (own_lt (by omega)) q11), by omega⟩)
theorem rm_au9 (G : GL l Z a0 zc fmt kpp) (F0 : fd1 Z h0 pa1 (.int 0)) : M14 l Z 0 0 0 0 #[.ref pa1] h0 n0 [] [] (Q5 Z  h0) := by
  refine mi B14 ef7 (hEW G) fun s X0 hsf0 n0le => ?_
  have := F0.l
  refine oG 3 X0 (w23 G) Via.refl ((sg5 G).ext X0.old.2) d14_0 rfl ?_
  intro _ X2
  refine on 6 X2 d14_3 rfl ((if0 _ _).trans (feq (hzc G)).1) <| oA 7 X2 d14_6 rfl rfl <| oF 10 X2 (w22 G) Via.refl F0 d14_7 rfl ?_
  intro _ X4
  refine og 14 X4 d14_10 (by decide) ?_
  exact o_nret (y := (0 : Int32)) (t := .byte) X4 d14_14 rfl (by decide) (by simp) (by decide) (by decide) (fun _ CC => rfl)
theorem rm_au10 (G : GL l Z a0 zc fmt kpp) (F0 : ex1 Z h0 pa1) (F1 : fd1 Z h0 pa1 (.int 0)) (F2 : fd0 Z h0 pa1 (.ref pa2)) (F3 : av0 Z h0 pa2 pk1 0 ps_pa2) : M13 l Z 1 0 0 13 #[.ref pa1] h0 n0 [] [] (Q5 Z  h0) := by
  refine mi B13 ef7 (hEW G) fun s X0 hsf0 n0le => ?_
  have := F0.l
  have := F3.l
  refine oA 1 X0 d13_0 rfl rfl <| oF 4 X0 (w21 G) Via.refl F2 d13_1 rfl ?_
  intro _ X2
  refine oL 5 X2 F3 d13_4 rfl <| oA 6 X2 d13_5 rfl rfl <| mV 9 1 X2 F0 (rm_au9 G F1) (u7 G) all0 d13_6 rfl rfl rfl lr (by decide) all0 ?_
  rintro _ _ _ _ X3 rfl _ _ _
  refine o_ishr 10 (v := 0) X3 d13_9 rfl (by decide) ?_
  exact o_iret X3 d13_10 rfl (by decide) (by decide) (fun _ CC => rfl)
def Q8 (Z : State) (h0 : Heap) (v : Option Value) (h : Heap) (vm : Vm) : Prop := v = none
theorem rm_au11 (G : GL l Z a0 zc fmt kpp) (F0 : fd6 Z h0 pa1 (.int pi101)) (F1 : fd5 Z h0 pa1 (.ref pa2)) (F2 : av0 Z h0 pa2 pk1 pi104 ps_pa2) (pc_0 : ¬ (0 : Int32) < (pi100 - (pi104 >>> (pi101 &&& 31)))) : M15 l Z 0 0 0 0 #[.ref pa1, .int pi100] h0 n0 [] [] (Q8 Z  h0) := by
  refine mi B15 ef9 (hEW G) fun s X0 hsf0 n0le => ?_
  have := F0.l
  have := F2.l
  refine oA 1 X0 d15_0 rfl rfl <| oF 4 X0 (w54 G) Via.refl F1 d15_1 rfl ?_
  intro _ X2
  refine oL 5 X2 F2 d15_4 rfl <| oA 6 X2 d15_5 rfl rfl <| oF 9 X2 (w56 G) Via.refl F0 d15_6 rfl ?_
  intro _ X4
  refine o_ishr 10 (v := (pi104 >>> (pi101 &&& 31))) X4 d15_9 rfl rfl <| oT 11 (l' := #[rr pa1, ii pi100, ii (pi104 >>> (pi101 &&& 31))]) X4 d15_10 rfl rfl <| oI 12 X4 d15_11 rfl rfl <| oI 13 X4 d15_12 rfl rfl <| o_isub 14 (v := (pi100 - (pi104 >>> (pi101 &&& 31)))) X4 d15_13 rfl rfl <| oy 38 X4 d15_14 (by decide) ((if0 _ _).trans (flt pc_0).2.2.2) ?_
  exact oz X4 d15_38 rfl (by decide) (by decide) (fun _ CC => rfl)
theorem rm_au12 (G : GL l Z a0 zc fmt kpp) (F0 : fd6 Z h0 pa1 (.int 0)) (F1 : ex1 Z h0 pa2) (F2 : fd1 Z h0 pa2 (.int 0)) : M17 l Z 1 0 0 13 #[.ref pa1, .ref pa2] h0 n0 [] [] (Q8 Z  h0) := by
  refine mi B17 ef3 (hEW G) fun s X0 hsf0 n0le => ?_
  have := F0.l
  have := F1.l
  refine oG 3 X0 (w53 G) Via.refl ((sg5 G).ext X0.old.2) d17_0 rfl ?_
  intro _ X2
  refine on 6 X2 d17_3 rfl ((if0 _ _).trans (feq (hzc G)).1) <| oA 7 X2 d17_6 rfl rfl <| oF 10 X2 (w56 G) Via.refl F0 d17_7 rfl ?_
  intro _ X4
  refine oA 11 X4 d17_10 rfl rfl <| mV 14 1 X4 F1 (rm_au9 G F2) (u10 G) all0 d17_11 rfl rfl rfl lr (by decide) all0 ?_
  rintro _ _ _ _ X5 rfl _ _ _
  refine oY 21 X5 d17_14 (by decide) (teq (by decide)).1 ?_
  exact oz X5 d17_21 rfl (by decide) (by decide) (fun _ CC => rfl)
def Q9 (Z : State) (b1 : Addr) (b2 : ClassId) (h0 : Heap) (v : Option Value) (h : Heap) (vm : Vm) : Prop := v = none ∧ av0 Z h b1 b2 16 [i0, i0, i0, i0, i0, i0, i0, i0, i0, i0, i0, i0, i0, i0, i0, i0] ∧ ex0 Z h b1
theorem rm_au13 (G : GL l Z a0 zc fmt kpp) (F0 : ex1 Z h0 pa1) (F1 : fd1 Z h0 pa1 (.int 0)) (F2 : fd0 Z h0 pa1 (.ref pa3)) (F3 : av0 Z h0 pa2 pk1 16 [i0, i0, i0, i0, i0, i0, i0, i0, i0, i0, i0, i0, i0, i0, i0, i0]) (F4 : ex0 Z h0 pa2) (F5 : av0 Z h0 pa3 pk2 0 []) (ne : NE pa1 pa2 ∧ NE pa2 pa3 ∧ n0 ≤ pa2) : M18 l Z 1 0 0 40 #[.ref pa1, .ref pa2, i0, i0] h0 n0 [pa2] [pa2] (Q9 Z pa2 pk1 h0) := by
  refine mi B18 ef11 (hEW G) fun s X0 hsf0 n0le => ?_
  have := F0.l
  have := F3.l
  have := F5.l
  have sf_pa2 := hsf0 pa2 (by simp)
  refine oA 1 X0 d18_0 rfl rfl <| mV 4 0 X0 F0 (rm_au9 G F1) (u7 G) all0 d18_1 rfl rfl rfl lr (by decide) all0 ?_
  rintro _ _ _ _ X1 rfl K1 _ C1
  refine oI 5 X1 d18_4 rfl rfl <| oN 8 X1 d18_5 rfl (teq (by decide)).2 <| oA 9 X1 d18_8 rfl rfl ?_
  have f2 := F2.k0 K1
  refine oF 12 X1 (w21 G) Via.refl f2 d18_9 rfl ?_
  intro _ X4
  refine oc 13 (v := 0) X4 d18_12 rfl (by decide) <| oA 14 X4 d18_13 rfl rfl <| oI 15 X4 d18_14 rfl rfl <| oI 16 X4 d18_15 rfl rfl <| o_ishl 17 (v := 0) X4 d18_16 rfl (by decide) <| oA 18 X4 d18_17 rfl rfl <| oF 21 X4 (w21 G) Via.refl f2 d18_18 rfl ?_
  intro _ X6
  have f7 := F5.k0 K1
  refine oL 22 X6 f7 d18_21 rfl ?_
  have f8 := F3.k0 K1
  have f9 := C1.safe (own_lt (by omega)) sf_pa2
  refine o_cp 25 (us := []) (vr := [i0, i0, i0, i0, i0, i0, i0, i0, i0, i0, i0, i0, i0, i0, i0, i0]) (W := 0) X6 (w101 G) (w104 G) (w102 G) (w103 G) f7 f8 (Or.inl ⟨rfl, rfl⟩) (by decide) (by decide) (by decide) (by decide) (by decide) rfl (Nat.le_of_ble_eq_true rfl) rfl d18_22 rfl rfl (by decide) (Nat.le_of_eq rfl) (by decide) (by omega) (Or.inl (by simp)) f9 ?_
  intro _ _ X10 K10 _ V10
  have := K10.1
  refine og 43 X10 d18_25 (by decide) ?_
  have f11 := (F4.keep K1).keep K10
  exact oz X10 d18_43 rfl (by decide) (by decide) (fun _ CC => ⟨rfl, V10, f11⟩)
theorem rm_au14 (G : GL l Z a0 zc fmt kpp) (F0 : ex3 Z h0 pa1) (F1 : fd6 Z h0 pa1 (.int 0)) (F2 : fd5 Z h0 pa1 (.ref pa3)) (F3 : ex1 Z h0 pa2) (F4 : fd1 Z h0 pa2 (.int 0)) (F5 : fd0 Z h0 pa2 (.ref pa4)) (F6 : av0 Z h0 pa3 pk1 16 [i0, i0, i0, i0, i0, i0, i0, i0, i0, i0, i0, i0, i0, i0, i0, i0]) (F7 : ex0 Z h0 pa3) (F8 : av0 Z h0 pa4 pk2 0 []) (ne : NE pa1 pa3 ∧ NE pa2 pa3 ∧ NE pa3 pa4 ∧ n0 ≤ pa3) : M16 l Z 2 0 0 55 #[.ref pa1, i0, .ref pa2] h0 n0 [pa3] [pa3] (Q9 Z pa3 pk1 h0) := by
  refine mi B16 ef10 (hEW G) fun s X0 hsf0 n0le => ?_
  have := F0.l
  have := F3.l
  have := F6.l
  have := F8.l
  have sf_pa3 := hsf0 pa3 (by simp)
  refine oA 1 X0 d16_0 rfl rfl <| oA 2 X0 d16_1 rfl rfl <| mV 5 0 X0 F0 (rm_au12 G F1 F3 F4) (u11 G) all0 d16_2 rfl rfl rfl lr (by decide) all0 ?_
  rintro _ _ _ _ X1 rfl K1 _ C1
  refine oA 6 X1 d16_5 rfl rfl <| oA 7 X1 d16_6 rfl rfl ?_
  have f2 := F2.k0 K1
  refine oF 10 X1 (w54 G) Via.refl f2 d16_7 rfl ?_
  intro _ X4
  refine oI 11 X4 d16_10 rfl rfl <| oA 12 X4 d16_11 rfl rfl ?_
  have f5 := F1.k0 K1
  refine oF 15 X4 (w56 G) Via.refl f5 d16_12 rfl ?_
  intro _ X7
  have f8 := F3.keep K1
  have f9 := F4.k0 K1
  have f10 := F5.k0 K1
  have f11 := F6.k0 K1
  have f12 := F7.keep K1
  have f13 := F8.k0 K1
  have f14 := C1.safe (own_lt (by omega)) sf_pa3
  refine mV 18 0 X7 f8 (rm_au13 G f8 f9 f10 f11 f12 f13 (by omega)) (u12 G) (sS (by omega) f14 all0) d16_15 rfl rfl rfl lr (by decide) (aI (by omega) (by simp) all0) ?_
  rintro _ _ _ _ X15 ⟨rfl, q16, q17⟩ _ _ _
  exact oz X15 d16_18 rfl (by decide) (by decide) (fun _ CC => ⟨rfl, q16, q17⟩)
def Q10 (Z : State) (b1 b2 : Addr) (b3 : ClassId) (h0 : Heap) (v : Option Value) (h : Heap) (vm : Vm) : Prop := v = some (.ref b1) ∧ ex3 Z h b1 ∧ fd6 Z h b1 (.int 0) ∧ fd7 Z h b1 (.int 0) ∧ fd8 Z h b1 (.int 0) ∧ fd5 Z h b1 (.ref b2) ∧ av0 Z h b2 b3 16 [i0, i0, i0, i0, i0, i0, i0, i0, i0, i0, i0, i0, i0, i0, i0, i0] ∧ ex0 Z h b2
theorem rm_au15 (G : GL l Z a0 zc fmt kpp) (F0 : ex3 Z h0 pa1) (F1 : fd6 Z h0 pa1 (.int 0)) (F2 : fd7 Z h0 pa1 (.int 0)) (F3 : fd8 Z h0 pa1 (.int 0)) (F4 : fd5 Z h0 pa1 (.ref pa3)) (F5 : ex1 Z h0 pa2) (F6 : fd1 Z h0 pa2 (.int 0)) (F7 : fd0 Z h0 pa2 (.ref pa4)) (F8 : av0 Z h0 pa3 pk1 16 [i0, i0, i0, i0, i0, i0, i0, i0, i0, i0, i0, i0, i0, i0, i0, i0]) (F9 : ex0 Z h0 pa3) (F10 : av0 Z h0 pa4 pk2 0 []) (ne : NE pa1 pa2 ∧ NE pa1 pa3 ∧ NE pa1 pa4 ∧ NE pa2 pa3 ∧ NE pa3 pa4 ∧ n0 ≤ pa1 ∧ n0 ≤ pa3) : M12 l Z 3 0 0 69 #[.ref pa1, .ref pa2] h0 n0 [pa1, pa3] [pa3] (Q10 Z pa1 pa3 pk1 h0) := by
  refine mi B12 ef8 (hEW G) fun s X0 hsf0 n0le => ?_
  have := F0.l
  have := F5.l
  have := F8.l
  have := F10.l
  have sf_pa3 := hsf0 pa3 (by simp)
  refine oA 1 X0 d12_0 rfl rfl <| ifnonnullYesJ 9 X0 d12_1 (by decide) <| oA 10 X0 d12_9 rfl rfl <| mV 13 0 X0 F5 (rm_au10 G F5 F6 F7 F10) (u8 G) all0 d12_10 rfl rfl rfl lr (by decide) all0 ?_
  rintro _ _ _ _ X1 rfl K1 _ C1
  refine oT 14 (l' := #[rr pa1, rr pa2, ii 0]) X1 d12_13 rfl rfl <| oA 15 X1 d12_14 rfl rfl <| oA 16 X1 d12_15 rfl rfl ?_
  have f2 := F2.k0 K1
  refine oF 19 X1 (w78 G) Via.refl f2 d12_16 rfl ?_
  intro _ X4
  refine oI 20 X4 d12_19 rfl rfl <| o_iadd 21 (v := 0) X4 d12_20 rfl (by decide) ?_
  have f5 := F1.k0 K1
  have f6 := F4.k0 K1
  have f7 := F8.k0 K1
  have f8 := F0.keep K1
  refine mV 24 0 X4 f8 (rm_au11 G f5 f6 f7 (by decide)) (u9 G) all0 d12_21 rfl rfl rfl lr (by decide) all0 ?_
  rintro _ _ _ _ X9 rfl K9 _ C9
  refine oA 25 X9 d12_24 rfl rfl <| oA 26 X9 d12_25 rfl rfl ?_
  have f10 := f2.k0 K9
  refine oF 29 X9 (w78 G) Via.refl f10 d12_26 rfl ?_
  intro _ X12
  refine oA 30 X12 d12_29 rfl rfl ?_
  have f13 := f8.keep K9
  have f14 := f5.k0 K9
  have f15 := f6.k0 K9
  have f16 := (F5.keep K1).keep K9
  have f17 := (F6.k0 K1).k0 K9
  have f18 := (F7.k0 K1).k0 K9
  have f19 := f7.k0 K9
  have f20 := (F9.keep K1).keep K9
  have f21 := (F10.k0 K1).k0 K9
  have f22 := C9.safe (own_lt (by omega)) (C1.safe (own_lt (by omega)) sf_pa3)
  refine mV 33 0 X12 f13 (rm_au14 G f13 f14 f15 f16 f17 f18 f19 f20 f21 (by omega)) (u13 G) (sS (by omega) f22 all0) d12_30 rfl rfl rfl lr (by decide) (aI (by omega) (by simp) all0) ?_
  rintro _ _ _ _ X23 ⟨rfl, q24, q25⟩ K23 _ _
  refine oA 34 X23 d12_33 rfl rfl <| oD 35 X23 d12_34 rfl rfl ?_
  have f26 := f10.k1 K23 (by omega)
  refine oF 38 X23 (w78 G) Via.refl f26 d12_35 rfl ?_
  intro _ X28
  refine oI 39 X28 d12_38 rfl rfl <| o_iadd 40 (v := 0) X28 d12_39 rfl (by decide) ?_
  have f29 := f13.keep K23
  refine oP 43 (v' := (.int 0)) X28 (w78 G) Via.refl f26 f29 (Or.inl (w79 G)) (w41 G) fd_4 rfl rfl d12_40 rfl (by omega) (Or.inl (by simp)) (sx X28 f29 nc1) ?_
  intro _ _ X30 W30 _
  have := W30.size
  have f31 := f26.same W30
  refine oA 44 X30 d12_43 rfl rfl ?_
  have f32 := f29.wr W30
  have f33 := (f14.k1 K23 (by omega)).other W30 (Or.inr (sn8 G))
  have f34 := (((F3.k0 K1).k0 K9).k1 K23 (by omega)).other W30 (Or.inr (sn9 G))
  have f35 := (f15.k1 K23 (by omega)).other W30 (Or.inr (sn10 G))
  have f36 := q24.oth W30 (by omega)
  have f37 := q25.wr W30
  exact oR X30 d12_44 rfl rfl rfl (by decide) (by decide) (fun _ CC => ⟨rfl, f32, f33, f31, f34, f35, f36, f37⟩)
theorem rm_au16 (G : GL l Z a0 zc fmt kpp) (F0 : ex3 Z h0 pa1) (F1 : fd6 Z h0 pa1 (.int 0)) (F2 : fd7 Z h0 pa1 (.int 0)) (F3 : fd8 Z h0 pa1 (.int 0)) (F4 : fd5 Z h0 pa1 (.ref pa3)) (F5 : ex1 Z h0 pa2) (F6 : fd1 Z h0 pa2 (.int 0)) (F7 : fd0 Z h0 pa2 (.ref pa4)) (F8 : av0 Z h0 pa3 pk1 16 [i0, i0, i0, i0, i0, i0, i0, i0, i0, i0, i0, i0, i0, i0, i0, i0]) (F9 : ex0 Z h0 pa3) (F10 : av0 Z h0 pa4 pk2 0 []) (ne : NE pa1 pa2 ∧ NE pa1 pa3 ∧ NE pa1 pa4 ∧ NE pa2 pa3 ∧ NE pa3 pa4 ∧ n0 ≤ pa1 ∧ n0 ≤ pa3) : M11 l Z 4 0 0 83 #[.ref pa1, .ref pa2] h0 n0 [pa1, pa3] [pa3] (Q10 Z pa1 pa3 pk1 h0) := by
  refine mi B11 ef3 (hEW G) fun s X0 hsf0 n0le => ?_
  have := F0.l
  have := F5.l
  have := F8.l
  have := F10.l
  have sf_pa3 := hsf0 pa3 (by simp)
  refine oA 1 X0 d11_0 rfl rfl <| oA 2 X0 d11_1 rfl rfl <| mU 5 0 X0 F0 (rm_au15 G F0 F1 F2 F3 F4 F5 F6 F7 F8 F9 F10 (by omega)) (u14 G) (sS (by omega) sf_pa3 all0) d11_2 rfl rfl rfl lr (by decide) (aI (by omega) (by simp) (aI (by omega) (by simp) all0)) ?_
  rintro _ _ _ _ X1 ⟨rfl, q2, q3, q4, q5, q6, q7, q8⟩ _ _ _
  refine o_pop 6 X1 d11_5 rfl rfl <| oA 7 X1 d11_6 rfl rfl ?_
  exact oR X1 d11_7 rfl rfl rfl (by decide) (by decide) (fun _ CC => ⟨rfl, q2, q3, q4, q5, q6, q7, q8⟩)
def Q11 (Z : State) (h0 : Heap) (v : Option Value) (h : Heap) (vm : Vm) : Prop := v = some (.int 2)
theorem rm_au17 (G : GL l Z a0 zc fmt kpp) (F0 : ex1 Z h0 pa1) (F1 : fd1 Z h0 pa1 (.int 0)) (F2 : fd0 Z h0 pa1 (.ref pa2)) (F3 : av0 Z h0 pa2 pk1 2 ps_pa2) : M13 l Z 1 0 0 13 #[.ref pa1] h0 n0 [] [] (Q11 Z  h0) := by
  refine mi B13 ef7 (hEW G) fun s X0 hsf0 n0le => ?_
  have := F0.l
  have := F3.l
  refine oA 1 X0 d13_0 rfl rfl <| oF 4 X0 (w21 G) Via.refl F2 d13_1 rfl ?_
  intro _ X2
  refine oL 5 X2 F3 d13_4 rfl <| oA 6 X2 d13_5 rfl rfl <| mV 9 1 X2 F0 (rm_au9 G F1) (u7 G) all0 d13_6 rfl rfl rfl lr (by decide) all0 ?_
  rintro _ _ _ _ X3 rfl _ _ _
  refine o_ishr 10 (v := 2) X3 d13_9 rfl (by decide) ?_
  exact o_iret X3 d13_10 rfl (by decide) (by decide) (fun _ CC => rfl)
def Q12 (Z : State) (b1 : Addr) (b2 : ClassId) (b3 b4 : Int32) (h0 : Heap) (v : Option Value) (h : Heap) (vm : Vm) : Prop := v = none ∧ av0 Z h b1 b2 16 [.int b3, .int b4, i0, i0, i0, i0, i0, i0, i0, i0, i0, i0, i0, i0, i0, i0] ∧ ex0 Z h b1
theorem rm_au18 (G : GL l Z a0 zc fmt kpp) (F0 : ex1 Z h0 pa1) (F1 : fd1 Z h0 pa1 (.int 0)) (F2 : fd0 Z h0 pa1 (.ref pa3)) (F3 : av0 Z h0 pa2 pk1 16 [i0, i0, i0, i0, i0, i0, i0, i0, i0, i0, i0, i0, i0, i0, i0, i0]) (F4 : ex0 Z h0 pa2) (F5 : av0 Z h0 pa3 pk2 2 [.int pi1, .int pi2]) (ne : NE pa1 pa2 ∧ NE pa2 pa3 ∧ n0 ≤ pa2) : M18 l Z 1 0 0 40 #[.ref pa1, .ref pa2, i0, i0] h0 n0 [pa2] [pa2] (Q12 Z pa2 pk1 pi1 pi2 h0) := by
  refine mi B18 ef11 (hEW G) fun s X0 hsf0 n0le => ?_
  have := F0.l
  have := F3.l
  have := F5.l
  have sf_pa2 := hsf0 pa2 (by simp)
  refine oA 1 X0 d18_0 rfl rfl <| mV 4 0 X0 F0 (rm_au9 G F1) (u7 G) all0 d18_1 rfl rfl rfl lr (by decide) all0 ?_
  rintro _ _ _ _ X1 rfl K1 _ C1
  refine oI 5 X1 d18_4 rfl rfl <| oN 8 X1 d18_5 rfl (teq (by decide)).2 <| oA 9 X1 d18_8 rfl rfl ?_
  have f2 := F2.k0 K1
  refine oF 12 X1 (w21 G) Via.refl f2 d18_9 rfl ?_
  intro _ X4
  refine oc 13 (v := 0) X4 d18_12 rfl (by decide) <| oA 14 X4 d18_13 rfl rfl <| oI 15 X4 d18_14 rfl rfl <| oI 16 X4 d18_15 rfl rfl <| o_ishl 17 (v := 0) X4 d18_16 rfl (by decide) <| oA 18 X4 d18_17 rfl rfl <| oF 21 X4 (w21 G) Via.refl f2 d18_18 rfl ?_
  intro _ X6
  have f7 := F5.k0 K1
  refine oL 22 X6 f7 d18_21 rfl ?_
  have f8 := F3.k0 K1
  have f9 := C1.safe (own_lt (by omega)) sf_pa2
  refine o_cp 25 (us := [.int pi1, .int pi2]) (vr := [.int pi1, .int pi2, i0, i0, i0, i0, i0, i0, i0, i0, i0, i0, i0, i0, i0, i0]) (W := 0) X6 (w101 G) (w104 G) (w102 G) (w103 G) f7 f8 (Or.inl ⟨rfl, rfl⟩) (by decide) (by decide) (by decide) (by decide) (by decide) rfl (Nat.le_of_ble_eq_true rfl) rfl d18_22 rfl rfl (by decide) (Nat.le_of_eq rfl) (by decide) (by omega) (Or.inl (by simp)) f9 ?_
  intro _ _ X10 K10 _ V10
  have := K10.1
  refine og 43 X10 d18_25 (by decide) ?_
  have f11 := (F4.keep K1).keep K10
  exact oz X10 d18_43 rfl (by decide) (by decide) (fun _ CC => ⟨rfl, V10, f11⟩)
theorem rm_au19 (G : GL l Z a0 zc fmt kpp) (F0 : ex3 Z h0 pa1) (F1 : fd6 Z h0 pa1 (.int 0)) (F2 : fd5 Z h0 pa1 (.ref pa3)) (F3 : ex1 Z h0 pa2) (F4 : fd1 Z h0 pa2 (.int 0)) (F5 : fd0 Z h0 pa2 (.ref pa4)) (F6 : av0 Z h0 pa3 pk1 16 [i0, i0, i0, i0, i0, i0, i0, i0, i0, i0, i0, i0, i0, i0, i0, i0]) (F7 : ex0 Z h0 pa3) (F8 : av0 Z h0 pa4 pk2 2 [.int pi1, .int pi2]) (ne : NE pa1 pa3 ∧ NE pa2 pa3 ∧ NE pa3 pa4 ∧ n0 ≤ pa3) : M16 l Z 2 0 0 55 #[.ref pa1, i0, .ref pa2] h0 n0 [pa3] [pa3] (Q12 Z pa3 pk1 pi1 pi2 h0) := by
  refine mi B16 ef10 (hEW G) fun s X0 hsf0 n0le => ?_
  have := F0.l
  have := F3.l
  have := F6.l
  have := F8.l
  have sf_pa3 := hsf0 pa3 (by simp)
  refine oA 1 X0 d16_0 rfl rfl <| oA 2 X0 d16_1 rfl rfl <| mV 5 0 X0 F0 (rm_au12 G F1 F3 F4) (u11 G) all0 d16_2 rfl rfl rfl lr (by decide) all0 ?_
  rintro _ _ _ _ X1 rfl K1 _ C1
  refine oA 6 X1 d16_5 rfl rfl <| oA 7 X1 d16_6 rfl rfl ?_
  have f2 := F2.k0 K1
  refine oF 10 X1 (w54 G) Via.refl f2 d16_7 rfl ?_
  intro _ X4
  refine oI 11 X4 d16_10 rfl rfl <| oA 12 X4 d16_11 rfl rfl ?_
  have f5 := F1.k0 K1
  refine oF 15 X4 (w56 G) Via.refl f5 d16_12 rfl ?_
  intro _ X7
  have f8 := F3.keep K1
  have f9 := F4.k0 K1
  have f10 := F5.k0 K1
  have f11 := F6.k0 K1
  have f12 := F7.keep K1
  have f13 := F8.k0 K1
  have f14 := C1.safe (own_lt (by omega)) sf_pa3
  refine mV 18 0 X7 f8 (rm_au18 G f8 f9 f10 f11 f12 f13 (by omega)) (u12 G) (sS (by omega) f14 all0) d16_15 rfl rfl rfl lr (by decide) (aI (by omega) (by simp) all0) ?_
  rintro _ _ _ _ X15 ⟨rfl, q16, q17⟩ _ _ _
  exact oz X15 d16_18 rfl (by decide) (by decide) (fun _ CC => ⟨rfl, q16, q17⟩)
def Q13 (Z : State) (b1 b2 : Addr) (b3 : ClassId) (b4 b5 : Int32) (h0 : Heap) (v : Option Value) (h : Heap) (vm : Vm) : Prop := v = some (.ref b1) ∧ ex3 Z h b1 ∧ fd6 Z h b1 (.int 0) ∧ fd7 Z h b1 (.int 2) ∧ fd8 Z h b1 (.int 0) ∧ fd5 Z h b1 (.ref b2) ∧ av0 Z h b2 b3 16 [.int b4, .int b5, i0, i0, i0, i0, i0, i0, i0, i0, i0, i0, i0, i0, i0, i0] ∧ ex0 Z h b2
theorem rm_au20 (G : GL l Z a0 zc fmt kpp) (F0 : ex3 Z h0 pa1) (F1 : fd6 Z h0 pa1 (.int 0)) (F2 : fd7 Z h0 pa1 (.int 0)) (F3 : fd8 Z h0 pa1 (.int 0)) (F4 : fd5 Z h0 pa1 (.ref pa3)) (F5 : ex1 Z h0 pa2) (F6 : fd1 Z h0 pa2 (.int 0)) (F7 : fd0 Z h0 pa2 (.ref pa4)) (F8 : av0 Z h0 pa3 pk1 16 [i0, i0, i0, i0, i0, i0, i0, i0, i0, i0, i0, i0, i0, i0, i0, i0]) (F9 : ex0 Z h0 pa3) (F10 : av0 Z h0 pa4 pk2 2 [.int pi1, .int pi2]) (ne : NE pa1 pa2 ∧ NE pa1 pa3 ∧ NE pa1 pa4 ∧ NE pa2 pa3 ∧ NE pa3 pa4 ∧ n0 ≤ pa1 ∧ n0 ≤ pa3) : M12 l Z 3 0 0 69 #[.ref pa1, .ref pa2] h0 n0 [pa1, pa3] [pa3] (Q13 Z pa1 pa3 pk1 pi1 pi2 h0) := by
  refine mi B12 ef8 (hEW G) fun s X0 hsf0 n0le => ?_
  have := F0.l
  have := F5.l
  have := F8.l
  have := F10.l
  have sf_pa3 := hsf0 pa3 (by simp)
  refine oA 1 X0 d12_0 rfl rfl <| ifnonnullYesJ 9 X0 d12_1 (by decide) <| oA 10 X0 d12_9 rfl rfl <| mV 13 0 X0 F5 (rm_au17 G F5 F6 F7 F10) (u8 G) all0 d12_10 rfl rfl rfl lr (by decide) all0 ?_
  rintro _ _ _ _ X1 rfl K1 _ C1
  refine oT 14 (l' := #[rr pa1, rr pa2, ii 2]) X1 d12_13 rfl rfl <| oA 15 X1 d12_14 rfl rfl <| oA 16 X1 d12_15 rfl rfl ?_
  have f2 := F2.k0 K1
  refine oF 19 X1 (w78 G) Via.refl f2 d12_16 rfl ?_
  intro _ X4
  refine oI 20 X4 d12_19 rfl rfl <| o_iadd 21 (v := 2) X4 d12_20 rfl (by decide) ?_
  have f5 := F1.k0 K1
  have f6 := F4.k0 K1
  have f7 := F8.k0 K1
  have f8 := F0.keep K1
  refine mV 24 0 X4 f8 (rm_au11 G f5 f6 f7 (by decide)) (u9 G) all0 d12_21 rfl rfl rfl lr (by decide) all0 ?_
  rintro _ _ _ _ X9 rfl K9 _ C9
  refine oA 25 X9 d12_24 rfl rfl <| oA 26 X9 d12_25 rfl rfl ?_
  have f10 := f2.k0 K9
  refine oF 29 X9 (w78 G) Via.refl f10 d12_26 rfl ?_
  intro _ X12
  refine oA 30 X12 d12_29 rfl rfl ?_
  have f13 := f8.keep K9
  have f14 := f5.k0 K9
  have f15 := f6.k0 K9
  have f16 := (F5.keep K1).keep K9
  have f17 := (F6.k0 K1).k0 K9
  have f18 := (F7.k0 K1).k0 K9
  have f19 := f7.k0 K9
  have f20 := (F9.keep K1).keep K9
  have f21 := (F10.k0 K1).k0 K9
  have f22 := C9.safe (own_lt (by omega)) (C1.safe (own_lt (by omega)) sf_pa3)
  refine mV 33 0 X12 f13 (rm_au19 G f13 f14 f15 f16 f17 f18 f19 f20 f21 (by omega)) (u13 G) (sS (by omega) f22 all0) d12_30 rfl rfl rfl lr (by decide) (aI (by omega) (by simp) all0) ?_
  rintro _ _ _ _ X23 ⟨rfl, q24, q25⟩ K23 _ _
  refine oA 34 X23 d12_33 rfl rfl <| oD 35 X23 d12_34 rfl rfl ?_
  have f26 := f10.k1 K23 (by omega)
  refine oF 38 X23 (w78 G) Via.refl f26 d12_35 rfl ?_
  intro _ X28
  refine oI 39 X28 d12_38 rfl rfl <| o_iadd 40 (v := 2) X28 d12_39 rfl (by decide) ?_
  have f29 := f13.keep K23
  refine oP 43 (v' := (.int 2)) X28 (w78 G) Via.refl f26 f29 (Or.inl (w79 G)) (w41 G) fd_4 rfl rfl d12_40 rfl (by omega) (Or.inl (by simp)) (sx X28 f29 nc1) ?_
  intro _ _ X30 W30 _
  have := W30.size
  have f31 := f26.same W30
  refine oA 44 X30 d12_43 rfl rfl ?_
  have f32 := f29.wr W30
  have f33 := (f14.k1 K23 (by omega)).other W30 (Or.inr (sn8 G))
  have f34 := (((F3.k0 K1).k0 K9).k1 K23 (by omega)).other W30 (Or.inr (sn9 G))
  have f35 := (f15.k1 K23 (by omega)).other W30 (Or.inr (sn10 G))
  have f36 := q24.oth W30 (by omega)
  have f37 := q25.wr W30
  exact oR X30 d12_44 rfl rfl rfl (by decide) (by decide) (fun _ CC => ⟨rfl, f32, f33, f31, f34, f35, f36, f37⟩)
theorem rm_au21 (G : GL l Z a0 zc fmt kpp) (F0 : ex3 Z h0 pa1) (F1 : fd6 Z h0 pa1 (.int 0)) (F2 : fd7 Z h0 pa1 (.int 0)) (F3 : fd8 Z h0 pa1 (.int 0)) (F4 : fd5 Z h0 pa1 (.ref pa3)) (F5 : ex1 Z h0 pa2) (F6 : fd1 Z h0 pa2 (.int 0)) (F7 : fd0 Z h0 pa2 (.ref pa4)) (F8 : av0 Z h0 pa3 pk1 16 [i0, i0, i0, i0, i0, i0, i0, i0, i0, i0, i0, i0, i0, i0, i0, i0]) (F9 : ex0 Z h0 pa3) (F10 : av0 Z h0 pa4 pk2 2 [.int pi100, .int pi101]) (ne : NE pa1 pa2 ∧ NE pa1 pa3 ∧ NE pa1 pa4 ∧ NE pa2 pa3 ∧ NE pa3 pa4 ∧ n0 ≤ pa1 ∧ n0 ≤ pa3) : M11 l Z 4 0 0 83 #[.ref pa1, .ref pa2] h0 n0 [pa1, pa3] [pa3] (Q13 Z pa1 pa3 pk1 pi100 pi101 h0) := by
  refine mi B11 ef3 (hEW G) fun s X0 hsf0 n0le => ?_
  have := F0.l
  have := F5.l
  have := F8.l
  have := F10.l
  have sf_pa3 := hsf0 pa3 (by simp)
  refine oA 1 X0 d11_0 rfl rfl <| oA 2 X0 d11_1 rfl rfl <| mU 5 0 X0 F0 (rm_au20 G F0 F1 F2 F3 F4 F5 F6 F7 F8 F9 F10 (by omega)) (u14 G) (sS (by omega) sf_pa3 all0) d11_2 rfl rfl rfl lr (by decide) (aI (by omega) (by simp) (aI (by omega) (by simp) all0)) ?_
  rintro _ _ _ _ X1 ⟨rfl, q2, q3, q4, q5, q6, q7, q8⟩ _ _ _
  refine o_pop 6 X1 d11_5 rfl rfl <| oA 7 X1 d11_6 rfl rfl ?_
  exact oR X1 d11_7 rfl rfl rfl (by decide) (by decide) (fun _ CC => ⟨rfl, q2, q3, q4, q5, q6, q7, q8⟩)
def Q14 (Z : State) (b1 : Addr) (h0 : Heap) (v : Option Value) (h : Heap) (vm : Vm) : Prop := v = some (.ref b1)
theorem rm_au22 (G : GL l Z a0 zc fmt kpp) (F0 : fd5 Z h0 pa1 (.ref pa2)) : M22 l Z 0 0 0 0 #[.ref pa1] h0 n0 [] [] (Q14 Z pa2 h0) := by
  refine mi B22 ef7 (hEW G) fun s X0 hsf0 n0le => ?_
  have := F0.l
  refine oA 1 X0 d22_0 rfl rfl <| oF 4 X0 (w54 G) Via.refl F0 d22_1 rfl ?_
  intro _ X2
  exact oR X2 d22_4 rfl rfl rfl (by decide) (by decide) (fun _ CC => rfl)
def Q15 (Z : State) (b1 : Int32) (h0 : Heap) (v : Option Value) (h : Heap) (vm : Vm) : Prop := v = some (.int b1)
theorem rm_au23 (G : GL l Z a0 zc fmt kpp) (F0 : fd7 Z h0 pa1 (.int pi2)) : M24 l Z 0 0 0 0 #[.ref pa1] h0 n0 [] [] (Q15 Z pi2 h0) := by
  refine mi B24 ef7 (hEW G) fun s X0 hsf0 n0le => ?_
  have := F0.l
  refine oA 1 X0 d24_0 rfl rfl <| oF 4 X0 (w78 G) Via.refl F0 d24_1 rfl ?_
  intro _ X2
  exact o_iret X2 d24_4 rfl (by decide) (by decide) (fun _ CC => rfl)
theorem rm_au24 (G : GL l Z a0 zc fmt kpp) (F0 : ex3 Z h0 pa1) (F1 : fd7 Z h0 pa1 (.int pi2)) : M23 l Z 1 0 0 12 #[.ref pa1] h0 n0 [] [] (Q15 Z pi2 h0) := by
  refine mi B23 ef7 (hEW G) fun s X0 hsf0 n0le => ?_
  have := F0.l
  refine oA 1 X0 d23_0 rfl rfl <| mU 4 0 X0 F0 (rm_au23 G F1) (u17 G) all0 d23_1 rfl rfl rfl lr (by decide) all0 ?_
  rintro _ _ _ _ X1 rfl _ _ _
  exact o_iret X1 d23_4 rfl (by decide) (by decide) (fun _ CC => rfl)
def Q16 (Z : State) (h0 : Heap) (v : Option Value) (h : Heap) (vm : Vm) : Prop := v = some (.int 1)
theorem rm_au25 (G : GL l Z a0 zc fmt kpp) (F0 : fd6 Z h0 pa1 (.int pi1)) (pc_0 : pi1 = (0 : Int32)) : M25 l Z 0 0 0 0 #[.ref pa1] h0 n0 [] [] (Q16 Z  h0) := by
  refine mi B25 ef7 (hEW G) fun s X0 hsf0 n0le => ?_
  have := F0.l
  refine oG 3 X0 (w53 G) Via.refl ((sg5 G).ext X0.old.2) d25_0 rfl ?_
  intro _ X2
  refine on 6 X2 d25_3 rfl ((if0 _ _).trans (feq (hzc G)).1) <| oA 7 X2 d25_6 rfl rfl <| oF 10 X2 (w56 G) Via.refl F0 d25_7 rfl ?_
  intro _ X4
  refine on 13 X4 d25_10 rfl ((if0 _ _).trans (teq pc_0).2) <| oc 14 (v := 1) X4 d25_13 rfl (by decide) <| og 18 X4 d25_14 (by decide) ?_
  exact o_nret (y := (1 : Int32)) (t := .boolean) X4 d25_18 rfl (by decide) (by simp) (by decide) (by decide) (fun _ CC => rfl)
theorem rm_au26 (G : GL l Z a0 zc fmt kpp) (pc_0 : ¬ pi2 < pi1) : M28 l Z 0 0 0 0 #[.int pi1, .int pi2] h0 n0 [] [] (Q8 Z  h0) := by
  refine mi B28 ef14 (hEW G) fun s X0 hsf0 n0le => ?_
  refine oI 1 X0 d28_0 rfl rfl <| oI 2 X0 d28_1 rfl rfl <| oY 37 X0 d28_2 (by decide) (flt pc_0).2.1 ?_
  exact oz X0 d28_37 rfl (by decide) (by decide) (fun _ CC => rfl)
theorem rm_au27 (G : GL l Z a0 zc fmt kpp) (pc_0 : pi101 < pi100) : M29 l Z 0 0 0 0 #[.int pi100, .int pi101] h0 n0 [] [] (Q15 Z pi101 h0) := by
  refine mi B29 ef14 (hEW G) fun s X0 hsf0 n0le => ?_
  refine oI 1 X0 d29_0 rfl rfl <| oI 2 X0 d29_1 rfl rfl <| oY 9 X0 d29_2 (by decide) (tlt pc_0).2.2.1 <| oI 10 X0 d29_9 rfl rfl ?_
  exact o_iret X0 d29_10 rfl (by decide) (by decide) (fun _ CC => rfl)
theorem rm_au28 (G : GL l Z a0 zc fmt kpp) (F0 : av0 Z h0 pa1 pk1 16 [.int 47, .int 42, i0, i0, i0, i0, i0, i0, i0, i0, i0, i0, i0, i0, i0, i0]) : M27 l Z 1 1 2 40 #[.ref pa1, i0, .int 2] h0 n0 [] [] (Q4 Z  h0) := by
  refine mi B27 ef13 (hEW G) fun s X0 hsf0 n0le => ?_
  have := F0.l
  refine oI 1 X0 d27_0 rfl rfl <| oI 2 X0 d27_1 rfl rfl <| mS 5 0 X0 (rm_au26 G (by decide)) (u20 G) all0 d27_2 rfl rfl rfl lr (by decide) all0 ?_
  rintro _ _ _ _ X1 rfl K1 _ _
  refine oI 6 X1 d27_5 rfl rfl <| oI 7 X1 d27_6 rfl rfl <| o_isub 8 (v := 2) X1 d27_7 rfl (by decide) <| oT 9 (l' := #[rr pa1, ii 0, ii 2, ii 2, uu]) X1 d27_8 rfl rfl <| oI 10 X1 d27_9 rfl rfl <| nP (aty := .byte) 12 2 X1 (w16 G) d27_10 rfl (by decide) had_byte ?_
  intro _ h2 b2 k2 X2 _ _ E2 V2 A2 _ S2
  have V3 : av0 Z h2 b2 k2 2 [i0, i0] := V2.pad (pad_rep [] (.int (0 : Int32)) 2)
  refine oU 14 (l' := #[rr pa1, ii 0, ii 2, ii 2, rr b2]) X2 d27_12 rfl rfl rfl <| oA 15 X2 d27_14 rfl rfl <| oI 16 X2 d27_15 rfl rfl <| oa 18 X2 d27_16 rfl rfl <| oc 19 (v := 0) X2 d27_18 rfl (by decide) <| oA 20 X2 d27_19 rfl rfl ?_
  have f4 := (F0.k0 K1).ext E2
  refine oL 21 X2 f4 d27_20 rfl <| oI 22 X2 d27_21 rfl rfl <| o_isub 23 (v := 16) X2 d27_22 rfl (by decide) <| oI 24 X2 d27_23 rfl rfl <| mS 27 4 X2 (rm_au27 G (by decide)) (u21 G) all0 d27_24 rfl rfl rfl lr (by decide) all0 ?_
  rintro _ _ _ _ X5 rfl K5 _ C5
  have f6 := f4.k0 K5
  have f7 := V3.k0 K5
  have f8 := C5.safe (own_lt (by omega)) S2
  refine o_cp 30 (us := [.int 47, .int 42]) (vr := [.int 47, .int 42]) (W := 0) X5 (w150 G) (w104 G) (w102 G) (w103 G) f6 f7 (Or.inl ⟨rfl, rfl⟩) (by decide) (by decide) (by decide) (by decide) (by decide) rfl (Nat.le_of_ble_eq_true rfl) rfl d27_27 rfl rfl (by decide) (Nat.le_of_eq rfl) (by decide) (by omega) (Or.inr (by omega)) f8 ?_
  intro _ _ X9 K9 C9 V9
  have := K9.1
  refine oa 32 X9 d27_30 rfl rfl ?_
  have f10 := (A2.keep K5).keep K9
  have f11 := C9.safe (own_lt (by omega)) f8
  exact oR X9 d27_32 rfl rfl rfl (by decide) (by decide) (fun _ CC => ⟨b2, k2, rfl, V9, f10, (CC.safe (own_lt (by omega)) f11), by omega⟩)
theorem rm_au29 (G : GL l Z a0 zc fmt kpp) (F0 : av0 Z h0 pa1 pk1 16 [.int 47, .int 42, i0, i0, i0, i0, i0, i0, i0, i0, i0, i0, i0, i0, i0, i0]) : M26 l Z 2 1 2 56 #[.ref pa1, i0, .int 2] h0 n0 [] [] (Q4 Z  h0) := by
  refine mi B26 ef0 (hEW G) fun s X0 hsf0 n0le => ?_
  have := F0.l
  refine oI 1 X0 d26_0 rfl rfl <| on 4 X0 d26_1 rfl ((if0 _ _).trans (teq (by decide)).2) <| oI 5 X0 d26_4 rfl rfl <| oA 6 X0 d26_5 rfl rfl <| oL 7 X0 F0 d26_6 rfl <| oN 10 X0 d26_7 rfl (feq (by decide)).1 <| oA 11 X0 d26_10 rfl rfl <| oI 12 X0 d26_11 rfl rfl <| oI 13 X0 d26_12 rfl rfl <| mS 16 0 X0 (rm_au28 G F0) (u22 G) all0 d26_13 rfl rfl rfl lr (by decide) all0 ?_
  rintro _ _ _ _ X1 ⟨xa1_2, xk1_3, rfl, q4, q5, q6, _⟩ _ _ _
  exact oR X1 d26_16 rfl rfl rfl (by decide) (by decide) (fun _ CC => ⟨xa1_2, xk1_3, rfl, q4, q5, (CC.safe (own_lt (by omega)) q6), by omega⟩)
theorem rm_au30 (G : GL l Z a0 zc fmt kpp) (F0 : ex1 Z h0 pa1) (F1 : fd1 Z h0 pa1 (.int 0)) (F2 : fd0 Z h0 pa1 .null) (F3 : ex3 Z h0 pa2) (F4 : fd6 Z h0 pa2 (.int 0)) (F5 : fd7 Z h0 pa2 (.int 2)) (F6 : fd5 Z h0 pa2 (.ref pa3)) (F7 : av0 Z h0 pa3 pk1 16 [.int 47, .int 42, i0, i0, i0, i0, i0, i0, i0, i0, i0, i0, i0, i0, i0, i0]) (ne : NE pa1 pa2 ∧ NE pa1 pa3 ∧ n0 ≤ pa1) : M21 l Z 3 1 2 71 #[.ref pa1, .ref pa2, .null] h0 n0 [pa1] [pa1] (Q6 Z pa1 h0) := by
  refine mi B21 ef12 (hEW G) fun s X0 hsf0 n0le => ?_
  have := F0.l
  have := F3.l
  have := F7.l
  have sf_pa1 := hsf0 pa1 (by simp)
  refine oA 1 X0 d21_0 rfl rfl <| o_initO 4 (W := 0) X0 (w12 G) (w13 G) (w14 G) rfl (by decide) (Nat.le_of_eq rfl) (by decide) d21_1 rfl ?_
  intro _ X2
  refine oA 5 X2 d21_4 rfl rfl <| mV 8 0 X2 F3 (rm_au22 G F6) (u16 G) all0 d21_5 rfl rfl rfl lr (by decide) all0 ?_
  rintro _ _ _ _ X3 rfl K3 _ C3
  refine oV 9 (l' := #[rr pa1, rr pa2, .val .null, rr pa3, uu]) X3 d21_8 rfl rfl rfl <| oA 10 X3 d21_9 rfl rfl ?_
  have f4 := F3.keep K3
  have f5 := F5.k0 K3
  refine mV 13 0 X3 f4 (rm_au24 G f4 f5) (u18 G) all0 d21_10 rfl rfl rfl lr (by decide) all0 ?_
  rintro _ _ _ _ X6 rfl K6 _ C6
  refine oS 15 (l' := #[rr pa1, rr pa2, .val .null, rr pa3, ii 2]) X6 d21_13 rfl rfl <| oA 16 X6 d21_15 rfl rfl ?_
  have f7 := (F4.k0 K3).k0 K6
  have f8 := f4.keep K6
  refine mV 19 0 X6 f8 (rm_au25 G f7 (by decide)) (u19 G) all0 d21_16 rfl rfl rfl lr (by decide) all0 ?_
  rintro _ _ _ _ X9 rfl K9 _ C9
  refine on 22 X9 d21_19 rfl ((if0 _ _).trans (feq (by decide)).1) <| oA 23 X9 d21_22 rfl rfl <| oc 24 (v := 0) X9 d21_23 rfl (by decide) ?_
  have f10 := ((F1.k0 K3).k0 K6).k0 K9
  have f11 := ((F0.keep K3).keep K6).keep K9
  have f13 := C9.safe (own_lt (by omega)) (C6.safe (own_lt (by omega)) (C3.safe (own_lt (by omega)) sf_pa1))
  refine oP 27 (v' := (.int 0)) X9 (w22 G) Via.refl f10 f11 (Or.inr ⟨(w18 G), rfl, rfl⟩) (w2 G) fd_1 rfl rfl d21_24 rfl (by omega) (Or.inl (by simp)) f13 ?_
  intro _ _ X12 W12 C12
  have := W12.size
  have f14 := f10.same W12
  refine oA 28 X12 d21_27 rfl rfl <| oA 29 X12 d21_28 rfl rfl <| oc 30 (v := 0) X12 d21_29 rfl (by decide) <| oi 32 X12 d21_30 rfl rfl ?_
  have f15 := (((F7.k0 K3).k0 K6).k0 K9).oth W12 (by omega)
  refine mS 35 1 X12 (rm_au29 G f15) (u23 G) all0 d21_32 rfl rfl rfl lr (by decide) all0 ?_
  rintro _ _ _ _ X16 ⟨xa1_17, xk1_18, rfl, q19, q20, q21, _⟩ K16 _ C16
  have f23 := ((((F2.k0 K3).k0 K6).k0 K9).other W12 (Or.inr (sn1 G))).k0 K16
  have f24 := (f11.wr W12).keep K16
  have f26 := C16.safe (own_lt (by omega)) (C12.safe (own_lt (by omega)) f13)
  refine oP 38 (v' := (.ref xa1_17)) X16 (w21 G) Via.refl f23 f24 (Or.inr ⟨(w17 G), rfl, rfl⟩) (w2 G) fd_0 rfl rfl d21_35 rfl (by omega) (Or.inl (by simp)) f26 ?_
  intro _ _ X25 W25 C25
  have := W25.size
  have f27 := f23.same W25
  refine og 97 X25 d21_38 (by decide) ?_
  have f28 := f24.wr W25
  have f29 := (f14.k0 K16).other W25 (Or.inr (sn0 G))
  have f30 := q19.oth W25 (by omega)
  have f31 := q20.wr W25
  have f32 := C25.safe (own_lt (by omega)) q21
  exact oz X25 d21_97 rfl (by decide) (by decide) (fun _ CC => ⟨xa1_17, xk1_18, rfl, f28, f29, f27, f30, f31, (CC.safe (own_lt (by omega)) f32), by omega⟩)
theorem rm_au31 (G : GL l Z a0 zc fmt kpp) (F0 : ex1 Z h0 pa1) (F1 : fd1 Z h0 pa1 (.int 0)) (F2 : fd0 Z h0 pa1 .null) (F3 : ex3 Z h0 pa2) (F4 : fd6 Z h0 pa2 (.int 0)) (F5 : fd7 Z h0 pa2 (.int 2)) (F6 : fd5 Z h0 pa2 (.ref pa3)) (F7 : av0 Z h0 pa3 pk1 16 [.int 47, .int 42, i0, i0, i0, i0, i0, i0, i0, i0, i0, i0, i0, i0, i0, i0]) (ne : NE pa1 pa2 ∧ NE pa1 pa3 ∧ n0 ≤ pa1) : M20 l Z 4 1 2 87 #[.ref pa1, .ref pa2] h0 n0 [pa1] [pa1] (Q6 Z pa1 h0) := by
  refine mi B20 ef3 (hEW G) fun s X0 hsf0 n0le => ?_
  have := F0.l
  have := F3.l
  have := F7.l
  have sf_pa1 := hsf0 pa1 (by simp)
  refine oA 1 X0 d20_0 rfl rfl <| oA 2 X0 d20_1 rfl rfl <| o_aconstNull 3 X0 d20_2 rfl <| mP 6 0 X0 (rm_au30 G F0 F1 F2 F3 F4 F5 F6 F7 (by omega)) (u24 G) (sS (by omega) sf_pa1 all0) d20_3 rfl rfl rfl lr (by decide) (aI (by omega) (by simp) all0) ?_
  rintro _ _ _ _ X1 ⟨xa1_2, xk1_3, rfl, q4, q5, q6, q7, q8, q9, _⟩ _ _ _
  exact oz X1 d20_6 rfl (by decide) (by decide) (fun _ CC => ⟨xa1_2, xk1_3, rfl, q4, q5, q6, q7, q8, (CC.safe (own_lt (by omega)) q9), by omega⟩)
def Q17 (Z : State) (h0 : Heap) (v : Option Value) (h : Heap) (vm : Vm) : Prop := ∃ (xa1 : Addr) (xa2 : Addr) (xk1 : ClassId), v = some (.ref xa1) ∧ ex1 Z h xa1 ∧ fd1 Z h xa1 (.int 0) ∧ fd0 Z h xa1 (.ref xa2) ∧ Safe Z EL0 vm h xa1 ∧ av0 Z h xa2 xk1 2 [.int 47, .int 42] ∧ ex0 Z h xa2 ∧ Safe Z EL0 vm h xa2 ∧ h0.size ≤ xa1 ∧ h.size > xa1 ∧ h0.size ≤ xa2 ∧ h.size > xa2 ∧ NE xa1 xa2
theorem rm_au32 (G : GL l Z a0 zc fmt kpp) (F0 : ex3 Z h0 pa1) (F1 : fd6 Z h0 pa1 (.int 0)) (F2 : fd7 Z h0 pa1 (.int 2)) (F3 : fd5 Z h0 pa1 (.ref pa2)) (F4 : av0 Z h0 pa2 pk1 16 [.int 47, .int 42, i0, i0, i0, i0, i0, i0, i0, i0, i0, i0, i0, i0, i0, i0]) : M19 l Z 5 2 6 101 #[.ref pa1] h0 n0 [] [] (Q17 Z  h0) := by
  refine mi B19 ef7 (hEW G) fun s X0 hsf0 n0le => ?_
  have l1 := F0.l
  have := F4.l
  refine o_new 3 X0 (w111 G) (w2 G) (w3 G) d19_0 rfl (by decide) (by decide) ?_
  intro _ h1 b1 X1 _ l1 E1 A1 D1 _ _ S1
  have f2 : fd0 Z h1 b1 .null := D1 (Or.inr (w17 G)) fd_0
  have f3 : fd1 Z h1 b1 (.int 0) := D1 (Or.inr (w18 G)) fd_1
  refine oD 4 X1 d19_3 rfl rfl <| oA 5 X1 d19_4 rfl rfl ?_
  have f4 := F0.ext E1
  have f5 := F1.ext E1
  have f6 := F2.ext E1
  have f7 := F3.ext E1
  have f8 := F4.ext E1
  refine mP 8 1 X1 (rm_au31 G A1 f3 f2 f4 f5 f6 f7 f8 (by omega)) (u25 G) (sS (by omega) S1 all0) d19_5 rfl rfl rfl lr (by decide) (aR (by omega) all0) ?_
  rintro _ _ _ _ X9 ⟨xa1_10, xk1_11, rfl, q12, q13, q14, q15, q16, q17, _⟩ _ _ C9
  have f19 := C9.safe (own_lt (by omega)) S1
  exact oR X9 d19_8 rfl rfl rfl (by decide) (by decide) (fun _ CC => ⟨b1, xa1_10, xk1_11, rfl, q12, q13, q14, (CC.safe (own_lt (by omega)) f19), q15, q16, (CC.safe (own_lt (by omega)) q17), by omega⟩)
def Q18 (Z : State) (b1 b2 b3 b4 : Addr) (h0 : Heap) (v : Option Value) (h : Heap) (vm : Vm) : Prop := v = none ∧ ex4 Z h b1 ∧ fd3 Z h b1 (.ref b2) ∧ fd2 Z h b1 (.ref b3) ∧ fd4 Z h b1 (.ref b4)
theorem rm_au33 (G : GL l Z a0 zc fmt kpp) (F0 : ex4 Z h0 pa1) (F1 : fd3 Z h0 pa1 .null) (F2 : fd2 Z h0 pa1 .null) (F3 : fd4 Z h0 pa1 .null) (ne : n0 ≤ pa1) : M30 l Z 1 0 0 12 #[.ref pa1, .ref pa2, .ref kpp, .ref pa3] h0 n0 [pa1] [] (Q18 Z pa1 kpp pa2 pa3 h0) := by
  refine mi B30 ef15 (hEW G) fun s X0 hsf0 n0le => ?_
  have := F0.l
  refine oA 1 X0 d30_0 rfl rfl <| o_initO 4 (W := 0) X0 (w157 G) (w13 G) (w14 G) rfl (by decide) (Nat.le_of_eq rfl) (by decide) d30_1 rfl ?_
  intro _ X2
  refine oA 5 X2 d30_4 rfl rfl <| oA 6 X2 d30_5 rfl rfl <| oP 9 (v' := (.ref pa2)) X2 (w158 G) Via.refl F2 F0 (Or.inr ⟨(w159 G), rfl, rfl⟩) (w39 G) fd_2 rfl rfl d30_6 rfl (by omega) (Or.inl (by simp)) (sx X2 F0 nc2) ?_
  intro _ _ X3 W3 _
  have := W3.size
  have f4 := F2.same W3
  refine oA 10 X3 d30_9 rfl rfl <| oA 11 X3 d30_10 rfl rfl ?_
  have f5 := F1.other W3 (Or.inr (sn11 G))
  have f6 := F0.wr W3
  refine oP 14 (v' := (.ref kpp)) X3 (w160 G) Via.refl f5 f6 (Or.inr ⟨(w161 G), rfl, rfl⟩) (w39 G) fd_3 rfl rfl d30_11 rfl (by omega) (Or.inl (by simp)) (sx X3 f6 nc2) ?_
  intro _ _ X7 W7 _
  have := W7.size
  have f8 := f5.same W7
  refine oA 15 X7 d30_14 rfl rfl <| oA 16 X7 d30_15 rfl rfl ?_
  have f9 := (F3.other W3 (Or.inr (sn12 G))).other W7 (Or.inr (sn13 G))
  have f10 := f6.wr W7
  refine oP 19 (v' := (.ref pa3)) X7 (w162 G) Via.refl f9 f10 (Or.inr ⟨(w163 G), rfl, rfl⟩) (w39 G) fd_2 rfl rfl d30_16 rfl (by omega) (Or.inl (by simp)) (sx X7 f10 nc2) ?_
  intro _ _ X11 W11 _
  have := W11.size
  have f12 := f9.same W11
  have f13 := f10.wr W11
  have f14 := f8.other W11 (Or.inr (sn14 G))
  have f15 := (f4.other W7 (Or.inr (sn15 G))).other W11 (Or.inr (sn16 G))
  exact oz X11 d30_19 rfl (by decide) (by decide) (fun _ CC => ⟨rfl, f13, f14, f15, f12⟩)
def Q19 (Z : State) (b1 b2 : Addr) (h0 : Heap) (v : Option Value) (h : Heap) (vm : Vm) : Prop := ∃ (xa1 : Addr) (xa2 : Addr) (xa3 : Addr) (xk1 : ClassId), v = some (.ref xa1) ∧ ex4 Z h xa1 ∧ fd3 Z h xa1 (.ref b1) ∧ fd2 Z h xa1 (.ref xa2) ∧ fd4 Z h xa1 (.ref b2) ∧ ex1 Z h xa2 ∧ fd1 Z h xa2 (.int 0) ∧ fd0 Z h xa2 (.ref xa3) ∧ Safe Z EL0 vm h xa2 ∧ av0 Z h xa3 xk1 2 [.int 47, .int 42] ∧ ex0 Z h xa3 ∧ Safe Z EL0 vm h xa3 ∧ h0.size ≤ xa1 ∧ h.size > xa1 ∧ h0.size ≤ xa2 ∧ h.size > xa2 ∧ NE xa1 xa2 ∧ h0.size ≤ xa3 ∧ h.size > xa3 ∧ NE xa1 xa3 ∧ NE xa2 xa3
theorem rm_au34 (G : GL l Z a0 zc fmt kpp) (F0 : ex1 Z h0 pa1) (F1 : fd1 Z h0 pa1 (.int 0)) (F2 : fd0 Z h0 pa1 (.ref pa2)) (F3 : av0 Z h0 pa2 pk1 0 []) : M8 l Z 6 7 41 115 #[.ref pa1] h0 n0 [] [] (Q19 Z kpp pa1 h0) := by
  have hw := G.1
  refine mi B8 ef7 (hEW G) fun s X0 hsf0 n0le => ?_
  have l1 := F0.l
  have := F3.l
  refine o_new 3 X0 (w38 G) (w39 G) (w36 G) d8_0 rfl (by decide) (by decide) ?_
  intro _ h1 b1 X1 _ l1 E1 A1 D1 _ _ _
  have f2 : fd2 Z h1 b1 .null := D1 (Or.inr (w159 G)) fd_2
  have f3 : fd3 Z h1 b1 .null := D1 (Or.inr (w161 G)) fd_3
  have f4 : fd4 Z h1 b1 .null := D1 (Or.inr (w163 G)) fd_2
  refine oD 4 X1 d8_3 rfl rfl <| o_new 7 X1 (w40 G) (w41 G) (w42 G) d8_4 rfl (by decide) (by decide) ?_
  intro _ h5 b5 X5 _ _ E5 A5 D5 _ _ _
  have f6 : fd5 Z h5 b5 .null := D5 (Or.inl (w55 G)) fd_0
  have f7 : fd6 Z h5 b5 (.int 0) := D5 (Or.inl (w57 G)) fd_1
  have f8 : fd7 Z h5 b5 (.int 0) := D5 (Or.inl (w79 G)) fd_4
  have f9 : fd8 Z h5 b5 (.int 0) := D5 (Or.inl (w238 G)) fd_5
  refine oD 8 X5 d8_7 rfl rfl <| mP 11 3 X5 (rm_au8 G A5 f7 f8 f9 f6 (by omega)) (u6 G) all0 d8_8 rfl rfl rfl lr (by decide) (aR (by omega) all0) ?_
  rintro _ _ _ _ X10 ⟨xa1_11, _, rfl, q13, q14, q15, q16, q17, q18, q19, q20, _⟩ K10 _ _
  refine oA 12 X10 d8_11 rfl rfl ?_
  have f22 := ((F0.ext E1).ext E5).keep K10
  have f23 := ((F1.ext E1).ext E5).k1 K10 (by omega)
  have f24 := ((F2.ext E1).ext E5).k1 K10 (by omega)
  have f25 := ((F3.ext E1).ext E5).k1 K10 (by omega)
  refine mV 15 2 X10 q13 (rm_au16 G q13 q14 q15 q16 q17 f22 f23 f24 q18 q19 f25 (by omega)) (u15 G) (sS (by omega) q20 all0) d8_12 rfl rfl rfl lr (by decide) (aR (by omega) (aR (by omega) all0)) ?_
  rintro _ _ _ _ X26 ⟨rfl, q27, q28, q29, q30, q31, q32, q33⟩ K26 _ C26
  refine o_ldcC 17 (n := 8) (vs := own_bs ([47, 42] : List Int32)) (z := (2 : Int32)) X26 (w105 G) (hws_str hw) (by decide) ⟨by decide, rfl⟩ (by decide) (by decide) d8_15 rfl (by decide) (by decide) (by decide) (by decide) ?_
  intro a34 b34 kb34 _ h34 _ X34 E34 C34 Es34 Cs34 Vs34 As34 SF34
  have lta34 : h34.size > a34 := Es34.lt
  have ltb34 : h34.size > b34 := As34.lt
  have := E34.1
  have Bs34 : av0 Z h34 b34 kb34 2 [.int 47, .int 42] := As34
  have f36 := (((A1.ext E5).keep K10).keep K26).ext E34
  have := own_nes (SF34 b1 (sx X34 f36 nc2))
  have f38 := q27.ext E34
  have := own_nes (SF34 b5 (sx X34 f38 nc1))
  have f40 := C34.safe (own_lt (by omega)) (C26.safe (own_lt (by omega)) q20)
  have := own_nes (SF34 xa1_11 f40)
  have f41 := q28.ext E34
  have f42 := q29.ext E34
  have f43 := q30.ext E34
  have f44 := q31.ext E34
  have f45 := q32.ext E34
  have f46 := q33.ext E34
  refine mV 20 2 X34 f38 (rm_au21 G f38 f41 f42 f43 f44 Es34 Cs34 Vs34 f45 f46 Bs34 (by omega)) (u15 G) (sS (by omega) f40 all0) d8_17 rfl rfl rfl lr (by decide) (aR (by omega) (aR (by omega) all0)) ?_
  rintro _ _ _ _ X47 ⟨rfl, q48, q49, q50, _, q52, q53, _⟩ K47 _ _
  refine mV 23 2 X47 q48 (rm_au32 G q48 q49 q50 q52 q53) (u26 G) all0 d8_20 rfl rfl rfl lr (by decide) all0 ?_
  rintro _ _ _ _ X55 ⟨xa1_56, xa2_57, xk1_58, rfl, q59, q60, q61, q62, q63, q64, q65, _⟩ K55 _ _
  refine oG 26 X55 (w151 G) Via.refl ((sg1 G).ext X55.old.2) d8_23 rfl ?_
  intro _ X68
  refine oA 27 X68 d8_26 rfl rfl ?_
  have f69 := (f36.keep K47).keep K55
  have f70 := (((((f3.ext E5).k1 K10 (by omega)).k2 K26 (by omega)).ext E34).k2 K47 (by omega)).k0 K55
  have f71 := (((((f2.ext E5).k1 K10 (by omega)).k2 K26 (by omega)).ext E34).k2 K47 (by omega)).k0 K55
  have f72 := (((((f4.ext E5).k1 K10 (by omega)).k2 K26 (by omega)).ext E34).k2 K47 (by omega)).k0 K55
  refine mP 30 1 X68 (rm_au33 G f69 f70 f71 f72 (by omega)) (u27 G) all0 d8_27 rfl rfl rfl lr (by decide) (aR (by omega) all0) ?_
  rintro _ _ _ _ X73 ⟨rfl, q74, q75, q76, q77⟩ K73 _ C73
  have f78 := q59.keep K73
  have f79 := q60.k1 K73 (by omega)
  have f80 := q61.k1 K73 (by omega)
  have f81 := C73.safe (own_lt (by omega)) q62
  have f82 := q63.k1 K73 (by omega)
  have f83 := q64.keep K73
  have f84 := C73.safe (own_lt (by omega)) q65
  exact oR X73 d8_30 rfl rfl rfl (by decide) (by decide) (fun _ CC => ⟨b1, xa1_56, xa2_57, xk1_58, rfl, q74, q75, q76, q77, f78, f79, f80, (CC.safe (own_lt (by omega)) f81), f82, f83, (CC.safe (own_lt (by omega)) f84), by omega⟩)
theorem rm_au35 (G : GL l Z a0 zc fmt kpp) (F0 : fd2 Z h0 pa1 (.ref pa2)) : M31 l Z 0 0 0 0 #[.ref pa1] h0 n0 [] [] (Q14 Z pa2 h0) := by
  refine mi B31 ef7 (hEW G) fun s X0 hsf0 n0le => ?_
  have := F0.l
  refine oA 1 X0 d31_0 rfl rfl <| oF 4 X0 (w158 G) Via.refl F0 d31_1 rfl ?_
  intro _ X2
  exact oR X2 d31_4 rfl rfl rfl (by decide) (by decide) (fun _ CC => rfl)
theorem rm_au36 (G : GL l Z a0 zc fmt kpp) (F0 : av0 Z h0 pa1 pk1 2 [.int pi1, .int pi2]) (F1 : av0 Z h0 pa2 pk2 2 [.int pi3, .int pi4]) (pc_0 : pi1 = pi3) (pc_1 : pi2 = pi4) : M33 l Z 0 0 0 0 #[.ref pa1, .ref pa2] h0 n0 [] [] (Q16 Z  h0) := by
  refine mi B33 ef8 (hEW G) fun s X0 hsf0 n0le => ?_
  have := F0.l
  have := F1.l
  refine oA 1 X0 d33_0 rfl rfl <| oL 2 X0 F0 d33_1 rfl <| oA 3 X0 d33_2 rfl rfl <| oL 4 X0 F1 d33_3 rfl <| oN 7 X0 d33_4 rfl (teq (by decide)).2 <| oc 8 (v := 0) X0 d33_7 rfl (by decide) <| oT 9 (l' := #[rr pa1, rr pa2, ii 0]) X0 d33_8 rfl rfl <| oI 10 X0 d33_9 rfl rfl <| oA 11 X0 d33_10 rfl rfl <| oL 12 X0 F0 d33_11 rfl <| oN 15 X0 d33_12 rfl (tlt (by decide)).2.1 <| oA 16 X0 d33_15 rfl rfl ?_
  refine oI 17 X0 d33_16 rfl rfl <| oB 18 (v := (.int pi1)) X0 F0 ⟨by decide, by decide⟩ rfl d33_17 rfl <| oA 19 X0 d33_18 rfl rfl <| oI 20 X0 d33_19 rfl rfl <| oB 21 (v := (.int pi3)) X0 F1 ⟨by decide, by decide⟩ rfl d33_20 rfl <| oY 26 X0 d33_21 (by decide) (teq pc_0).1 <| oJ 29 1 #[rr pa1, rr pa2, ii 1] X0 d33_26 rfl rfl (by decide) rfl <| og 9 X0 d33_29 (by decide) <| oI 10 X0 d33_9 rfl rfl <| oA 11 X0 d33_10 rfl rfl <| oL 12 X0 F0 d33_11 rfl <| oN 15 X0 d33_12 rfl (tlt (by decide)).2.1 ?_
  refine oA 16 X0 d33_15 rfl rfl <| oI 17 X0 d33_16 rfl rfl <| oB 18 (v := (.int pi2)) X0 F0 ⟨by decide, by decide⟩ rfl d33_17 rfl <| oA 19 X0 d33_18 rfl rfl <| oI 20 X0 d33_19 rfl rfl <| oB 21 (v := (.int pi4)) X0 F1 ⟨by decide, by decide⟩ rfl d33_20 rfl <| oY 26 X0 d33_21 (by decide) (teq pc_1).1 <| oJ 29 2 #[rr pa1, rr pa2, ii 2] X0 d33_26 rfl rfl (by decide) rfl <| og 9 X0 d33_29 (by decide) <| oI 10 X0 d33_9 rfl rfl <| oA 11 X0 d33_10 rfl rfl <| oL 12 X0 F0 d33_11 rfl ?_
  refine oY 32 X0 d33_12 (by decide) (flt (by decide)).2.1 <| oc 33 (v := 1) X0 d33_32 rfl (by decide) ?_
  exact o_nret (y := (1 : Int32)) (t := .boolean) X0 d33_33 rfl (by decide) (by simp) (by decide) (by decide) (fun _ CC => rfl)
theorem rm_au37 (G : GL l Z a0 zc fmt kpp) (F0 : fd1 Z h0 pa1 (.int pi100)) (F1 : fd0 Z h0 pa1 (.ref pa3)) (F2 : ex1 Z h0 pa2) (F3 : fd1 Z h0 pa2 (.int pi101)) (F4 : fd0 Z h0 pa2 (.ref pa4)) (F5 : av0 Z h0 pa3 pk1 2 [.int pi102, .int pi103]) (F6 : av0 Z h0 pa4 pk2 2 [.int pi104, .int pi105]) (pc_0 : pi100 = pi101) (pc_1 : pi102 = pi104) (pc_2 : pi103 = pi105) (ne : NE pa1 pa2) : M32 l Z 1 0 0 14 #[.ref pa1, .ref pa2] h0 n0 [] [] (Q16 Z  h0) := by
  refine mi B32 ef8 (hEW G) fun s X0 hsf0 n0le => ?_
  have := F0.l
  have := F2.l
  have := F5.l
  have := F6.l
  refine oA 1 X0 d32_0 rfl rfl <| oA 2 X0 d32_1 rfl rfl <| o_acmp 7 (same := false) X0 d32_2 rfl rfl (decide_eq_false (fun q => absurd (Value.ref.inj q) (own_ne (by omega)))) (by decide) (by decide) <| oA 8 X0 d32_7 rfl rfl <| o_instY 11 X0 (w174 G) (Ins.self F2) d32_8 rfl ?_
  intro _ X2
  refine on 14 X2 d32_11 rfl ((if0 _ _).trans (feq (by decide)).1) <| oA 15 X2 d32_14 rfl rfl <| o_castY 18 X2 (w174 G) (Ins.self F2) d32_15 rfl ?_
  intro _ X4
  refine oV 19 (l' := #[rr pa1, rr pa2, rr pa2]) X4 d32_18 rfl rfl rfl <| oG 22 X4 (w23 G) Via.refl ((sg5 G).ext X4.old.2) d32_19 rfl ?_
  intro _ X6
  refine on 25 X6 d32_22 rfl ((if0 _ _).trans (feq (hzc G)).1) <| oA 26 X6 d32_25 rfl rfl <| oF 29 X6 (w22 G) Via.refl F0 d32_26 rfl ?_
  intro _ X8
  refine oA 30 X8 d32_29 rfl rfl <| oF 33 X8 (w22 G) Via.refl F3 d32_30 rfl ?_
  intro _ X10
  refine oN 36 X10 d32_33 rfl (teq pc_0).2 <| oA 37 X10 d32_36 rfl rfl <| oF 40 X10 (w21 G) Via.refl F1 d32_37 rfl ?_
  intro _ X12
  refine oA 41 X12 d32_40 rfl rfl <| oF 44 X12 (w21 G) Via.refl F4 d32_41 rfl ?_
  intro _ X14
  refine mS 47 0 X14 (rm_au36 G F5 F6 pc_1 pc_2) (u30 G) all0 d32_44 rfl rfl rfl lr (by decide) all0 ?_
  rintro _ _ _ _ X15 rfl _ _ _
  refine on 50 X15 d32_47 rfl ((if0 _ _).trans (feq (by decide)).1) <| oc 51 (v := 1) X15 d32_50 rfl (by decide) <| og 55 X15 d32_51 (by decide) ?_
  exact o_nret (y := (1 : Int32)) (t := .boolean) X15 d32_55 rfl (by decide) (by simp) (by decide) (by decide) (fun _ CC => rfl)
theorem rm_au38 (G : GL l Z a0 zc fmt kpp) (F0 : fd3 Z h0 pa1 (.ref kpp)) : M34 l Z 0 0 0 0 #[.ref pa1] h0 n0 [] [] (Q14 Z kpp h0) := by
  refine mi B34 ef7 (hEW G) fun s X0 hsf0 n0le => ?_
  have := F0.l
  refine oA 1 X0 d34_0 rfl rfl <| oF 4 X0 (w160 G) Via.refl F0 d34_1 rfl ?_
  intro _ X2
  exact oR X2 d34_4 rfl rfl rfl (by decide) (by decide) (fun _ CC => rfl)
theorem rm_au39 (G : GL l Z a0 zc fmt kpp) (F0 : fd4 Z h0 pa1 (.ref pa3)) : M35 l Z 0 0 0 0 #[.ref pa1] h0 n0 [] [] (Q14 Z pa3 h0) := by
  refine mi B35 ef7 (hEW G) fun s X0 hsf0 n0le => ?_
  have := F0.l
  refine oA 1 X0 d35_0 rfl rfl <| oF 4 X0 (w162 G) Via.refl F0 d35_1 rfl ?_
  intro _ X2
  exact oR X2 d35_4 rfl rfl rfl (by decide) (by decide) (fun _ CC => rfl)
theorem rm_au40 (G : GL l Z a0 zc fmt kpp)  : M32 l Z 0 0 0 0 #[.ref pa1, .ref pa1] h0 n0 [] [] (Q16 Z  h0) := by
  refine mi B32 ef8 (hEW G) fun s X0 hsf0 n0le => ?_
  refine oA 1 X0 d32_0 rfl rfl <| oA 2 X0 d32_1 rfl rfl <| o_acmp 5 (same := true) X0 d32_2 rfl rfl (decide_eq_true rfl) (by decide) (by decide) <| oc 6 (v := 1) X0 d32_5 rfl (by decide) ?_
  exact o_nret (y := (1 : Int32)) (t := .boolean) X0 d32_6 rfl (by decide) (by simp) (by decide) (by decide) (fun _ CC => rfl)
def Q20 (Z : State) (b1 : Addr) (b2 : ClassId) (h0 : Heap) (v : Option Value) (h : Heap) (vm : Vm) : Prop := v = some (.int 1) ∧ av0 Z h b1 b2 2 [.int 47, i0] ∧ ex0 Z h b1
theorem rm_au41 (G : GL l Z a0 zc fmt kpp) (F0 : av1 Z h0 pa1 pk1 2 [.int 47, .int pi1]) (F1 : av0 Z h0 pa2 pk2 2 [i0, i0]) (F2 : ex0 Z h0 pa2) (bg_pi1 : (255 : Int32) < pi1 ∧ ¬ (65535 : Int32) < pi1) (ne : NE pa1 pa2 ∧ n0 ≤ pa2) : M6 l Z 0 0 0 0 #[.ref pa1, i0, .ref pa2, i0, .int 2] h0 n0 [pa2] [pa2] (Q20 Z pa2 pk2 h0) := by
  refine mi B6 ef6 (hEW G) fun s X0 hsf0 n0le => ?_
  have := F0.l
  have := F1.l
  have sf_pa2 := hsf0 pa2 (by simp)
  refine oc 1 (v := 0) X0 d6_0 rfl (by decide) <| oS 3 (l' := #[rr pa1, ii 0, rr pa2, ii 0, ii 2, ii 0, uu]) X0 d6_1 rfl rfl <| oi 5 X0 d6_3 rfl rfl <| oi 7 X0 d6_5 rfl rfl <| oN 10 X0 d6_7 rfl (tlt (by decide)).2.1 <| oA 11 X0 d6_10 rfl rfl <| oI 12 X0 d6_11 rfl rfl <| oC 13 (v := (.int 47)) X0 F0 ⟨by decide, by decide⟩ rfl d6_12 rfl <| oS 15 (l' := #[rr pa1, ii 0, rr pa2, ii 0, ii 2, ii 0, ii 47]) X0 d6_13 rfl rfl <| oi 17 X0 d6_15 rfl rfl <| o_sipush 20 (v := 255) X0 d6_17 rfl (by decide) <| oY 26 X0 d6_20 (by decide) (flt (by decide)).2.2.2 ?_
  refine oA 27 X0 d6_26 rfl rfl <| oI 28 X0 d6_27 rfl rfl <| oi 30 X0 d6_28 rfl rfl <| o_i2b 31 (v := 47) X0 d6_30 rfl (by decide) <| sB 32 0 47 X0 F1 (by decide) (lb rfl) (by decide) d6_31 rfl (by omega) (Or.inl (by simp)) sf_pa2 ?_
  rintro _ _ X1 ⟨_, _, W1⟩ _ V1
  have := W1.size
  have V2 := V1.as [.int 47, i0] rfl
  refine oJ 35 1 #[rr pa1, ii 1, rr pa2, ii 0, ii 2, ii 0, ii 47] X1 d6_32 rfl rfl (by decide) rfl <| oJ 38 1 #[rr pa1, ii 1, rr pa2, ii 1, ii 2, ii 0, ii 47] X1 d6_35 rfl rfl (by decide) rfl <| oJ 41 1 #[rr pa1, ii 1, rr pa2, ii 1, ii 2, ii 1, ii 47] X1 d6_38 rfl rfl (by decide) rfl <| og 3 X1 d6_41 (by decide) <| oi 5 X1 d6_3 rfl rfl <| oi 7 X1 d6_5 rfl rfl <| oN 10 X1 d6_7 rfl (tlt (by decide)).2.1 <| oA 11 X1 d6_10 rfl rfl <| oI 12 X1 d6_11 rfl rfl ?_
  have f3 := F0.oth W1 (by omega)
  refine oC 13 (v := (.int pi1)) X1 f3 ⟨by decide, by decide⟩ rfl d6_12 rfl <| oS 15 (l' := #[rr pa1, ii 1, rr pa2, ii 1, ii 2, ii 1, ii pi1]) X1 d6_13 rfl rfl <| oi 17 X1 d6_15 rfl rfl <| o_sipush 20 (v := 255) X1 d6_17 rfl (by decide) <| oN 23 X1 d6_20 rfl (tlt bg_pi1.1).2.2.2 <| oi 25 X1 d6_23 rfl rfl ?_
  have f4 := F2.wr W1
  exact o_iret X1 d6_25 rfl (by decide) (by decide) (fun _ CC => ⟨rfl, V2, f4⟩)
def Q21 (Z : State) (h0 : Heap) (v : Option Value) (h : Heap) (vm : Vm) : Prop := v = some (.int 4)
theorem rm_au42 (G : GL l Z a0 zc fmt kpp)  : M38 l Z 0 0 0 0 #[.int 2] h0 n0 [] [] (Q21 Z  h0) := by
  refine mi B38 ef16 (hEW G) fun s X0 hsf0 n0le => ?_
  refine oI 1 X0 d38_0 rfl rfl <| oy 12 X0 d38_1 (by decide) ((if0 _ _).trans (flt (by decide)).2.1) <| oI 13 X0 d38_12 rfl rfl <| o_ldcI 15 (v := (1073741823 : Int32)) X0 (w199 G) d38_13 rfl <| oY 55 X0 d38_15 (by decide) (tlt (by decide)).1 <| oI 56 X0 d38_55 rfl rfl <| oc 57 (v := 1) X0 d38_56 rfl (by decide) <| o_ishl 58 (v := 4) X0 d38_57 rfl (by decide) ?_
  exact o_iret X0 d38_58 rfl (by decide) (by decide) (fun _ CC => rfl)
def Q22 (Z : State) (h0 : Heap) (v : Option Value) (h : Heap) (vm : Vm) : Prop := ∃ (xa1 : Addr) (xk1 : ClassId), v = some (.ref xa1) ∧ av0 Z h xa1 xk1 4 [i0, i0, i0, i0] ∧ ex0 Z h xa1 ∧ Safe Z EL0 vm h xa1 ∧ h0.size ≤ xa1 ∧ h.size > xa1
theorem rm_au43 (G : GL l Z a0 zc fmt kpp)  : M37 l Z 1 1 4 12 #[.int 2] h0 n0 [] [] (Q22 Z  h0) := by
  refine mi B37 ef16 (hEW G) fun s X0 hsf0 n0le => ?_
  refine oI 1 X0 d37_0 rfl rfl <| mS 4 0 X0 (rm_au42 G ) (u34 G) all0 d37_1 rfl rfl rfl lr (by decide) all0 ?_
  rintro _ _ _ _ X1 rfl _ _ _
  refine nP (aty := .byte) 6 4 X1 (w16 G) d37_4 rfl (by decide) had_byte ?_
  intro _ h2 b2 k2 X2 _ _ _ V2 A2 _ S2
  have V3 : av0 Z h2 b2 k2 4 [i0, i0, i0, i0] := V2.pad (pad_rep [] (.int (0 : Int32)) 4)
  exact oR X2 d37_6 rfl rfl rfl (by decide) (by decide) (fun _ CC => ⟨b2, k2, rfl, V3, A2, (CC.safe (own_lt (by omega)) S2), by omega⟩)
def Q23 (Z : State) (b1 : Int32) (h0 : Heap) (v : Option Value) (h : Heap) (vm : Vm) : Prop := ∃ (xa1 : Addr) (xk1 : ClassId), v = some (.ref xa1) ∧ av0 Z h xa1 xk1 4 [.int 47, i0, .int ((b1 >>> ((0 : Int32) &&& 31)).toInt8.toInt32), .int ((b1 >>> ((8 : Int32) &&& 31)).toInt8.toInt32)] ∧ ex0 Z h xa1 ∧ Safe Z EL0 vm h xa1 ∧ h0.size ≤ xa1 ∧ h.size > xa1
theorem rm_au44 (G : GL l Z a0 zc fmt kpp) (F0 : av1 Z h0 pa1 pk1 2 [.int 47, .int pi1]) (bg_pi1 : (255 : Int32) < pi1 ∧ ¬ (65535 : Int32) < pi1) : M36 l Z 2 1 4 24 #[.ref pa1, i0, .int 2] h0 n0 [] [] (Q23 Z pi1 h0) := by
  refine mi B36 ef13 (hEW G) fun s X0 hsf0 n0le => ?_
  have := F0.l
  refine oI 1 X0 d36_0 rfl rfl <| mS 4 0 X0 (rm_au43 G ) (u35 G) all0 d36_1 rfl rfl rfl lr (by decide) all0 ?_
  rintro _ _ _ _ X1 ⟨xa1_2, xk1_3, rfl, q4, q5, q6, _⟩ K1 _ _
  refine oV 5 (l' := #[rr pa1, ii 0, ii 2, rr xa1_2, uu]) X1 d36_4 rfl rfl rfl <| oc 6 (v := 0) X1 d36_5 rfl (by decide) <| oS 8 (l' := #[rr pa1, ii 0, ii 2, rr xa1_2, ii 0]) X1 d36_6 rfl rfl <| oi 10 X1 d36_8 rfl rfl <| oI 11 X1 d36_10 rfl rfl <| oN 14 X1 d36_11 rfl (tlt (by decide)).2.1 <| oA 15 X1 d36_14 rfl rfl <| oi 17 X1 d36_15 rfl rfl <| oA 18 X1 d36_17 rfl rfl <| oI 19 X1 d36_18 rfl rfl ?_
  have f8 := F0.k0 K1
  refine oC 20 (v := (.int 47)) X1 f8 ⟨by decide, by decide⟩ rfl d36_19 rfl <| mS 23 0 X1 (rm_putChar G q5 q4 ⟨by decide, by decide⟩ ⟨by decide, by decide⟩ (Nat.le_of_ble_eq_true rfl) (Nat.le_of_ble_eq_true rfl) (by omega)) (u36 G) (sS (by omega) q6 all0) d36_20 rfl rfl rfl lr (by decide) (aR (by omega) all0) ?_
  rintro _ _ _ _ X9 ⟨rfl, q10, q11⟩ K9 _ C9
  have V12 := q11.as [.int 47, i0, i0, i0] rfl
  refine oJ 26 1 #[rr pa1, ii 1, ii 2, rr xa1_2, ii 0] X9 d36_23 rfl rfl (by decide) rfl <| oJ 29 1 #[rr pa1, ii 1, ii 2, rr xa1_2, ii 1] X9 d36_26 rfl rfl (by decide) rfl <| og 8 X9 d36_29 (by decide) <| oi 10 X9 d36_8 rfl rfl <| oI 11 X9 d36_10 rfl rfl <| oN 14 X9 d36_11 rfl (tlt (by decide)).2.1 <| oA 15 X9 d36_14 rfl rfl <| oi 17 X9 d36_15 rfl rfl <| oA 18 X9 d36_17 rfl rfl <| oI 19 X9 d36_18 rfl rfl ?_
  have f13 := f8.k1 K9 (by omega)
  refine oC 20 (v := (.int pi1)) X9 f13 ⟨by decide, by decide⟩ rfl d36_19 rfl ?_
  have f14 := C9.safe (own_lt (by omega)) q6
  refine mS 23 0 X9 (rm_putChar G q10 V12 ⟨by decide, by decide⟩ ⟨by decide, by decide⟩ (Nat.le_of_ble_eq_true rfl) (Nat.le_of_ble_eq_true rfl) (by omega)) (u36 G) (sS (by omega) f14 all0) d36_20 rfl rfl rfl lr (by decide) (aR (by omega) all0) ?_
  rintro _ _ _ _ X15 ⟨rfl, q16, q17⟩ _ _ C15
  have V18 := q17.as [.int 47, i0, .int ((pi1 >>> ((0 : Int32) &&& 31)).toInt8.toInt32), .int ((pi1 >>> ((8 : Int32) &&& 31)).toInt8.toInt32)] rfl
  refine oJ 26 2 #[rr pa1, ii 2, ii 2, rr xa1_2, ii 1] X15 d36_23 rfl rfl (by decide) rfl <| oJ 29 2 #[rr pa1, ii 2, ii 2, rr xa1_2, ii 2] X15 d36_26 rfl rfl (by decide) rfl <| og 8 X15 d36_29 (by decide) <| oi 10 X15 d36_8 rfl rfl <| oI 11 X15 d36_10 rfl rfl <| oY 32 X15 d36_11 (by decide) (flt (by decide)).2.1 <| oA 33 X15 d36_32 rfl rfl ?_
  have f19 := C15.safe (own_lt (by omega)) f14
  exact oR X15 d36_33 rfl rfl rfl (by decide) (by decide) (fun _ CC => ⟨xa1_2, xk1_3, rfl, V18, q16, (CC.safe (own_lt (by omega)) f19), by omega⟩)
theorem rm_au45 (G : GL l Z a0 zc fmt kpp) (F0 : av1 Z h0 pa1 pk1 2 [.int 47, .int pi1]) (bg_pi1 : (255 : Int32) < pi1 ∧ ¬ (65535 : Int32) < pi1) : M5 l Z 3 2 6 40 #[.ref pa1, i0, .int 2] h0 n0 [] [] (Q23 Z pi1 h0) := by
  refine mi B5 ef5 (hEW G) fun s X0 hsf0 n0le => ?_
  have l1 := F0.l
  refine oI 1 X0 d5_0 rfl rfl <| nP (aty := .byte) 3 2 X0 (w16 G) d5_1 rfl (by decide) had_byte ?_
  intro _ h1 b1 k1 X1 _ l1 E1 V1 A1 _ S1
  have V2 : av0 Z h1 b1 k1 2 [i0, i0] := V1.pad (pad_rep [] (.int (0 : Int32)) 2)
  refine oV 4 (l' := #[rr pa1, ii 0, ii 2, rr b1, uu, uu]) X1 d5_3 rfl rfl rfl <| oA 5 X1 d5_4 rfl rfl <| oI 6 X1 d5_5 rfl rfl <| oA 7 X1 d5_6 rfl rfl <| oc 8 (v := 0) X1 d5_7 rfl (by decide) <| oI 9 X1 d5_8 rfl rfl ?_
  have f3 := F0.ext E1
  refine mS 12 0 X1 (rm_au41 G f3 V2 A1 bg_pi1 (by omega)) (u2 G) (sS (by omega) S1 all0) d5_9 rfl rfl rfl lr (by decide) (aR (by omega) all0) ?_
  rintro _ _ _ _ X4 ⟨rfl, _, _⟩ K4 _ _
  refine oS 14 (l' := #[rr pa1, ii 0, ii 2, rr b1, ii 1, uu]) X4 d5_12 rfl rfl <| oi 16 X4 d5_14 rfl rfl <| oI 17 X4 d5_16 rfl rfl <| oN 20 X4 d5_17 rfl (feq (by decide)).1 <| oA 21 X4 d5_20 rfl rfl <| oI 22 X4 d5_21 rfl rfl <| oI 23 X4 d5_22 rfl rfl ?_
  have f7 := f3.k1 K4 (by omega)
  refine mS 26 0 X4 (rm_au44 G f7 bg_pi1) (u37 G) all0 d5_23 rfl rfl rfl lr (by decide) all0 ?_
  rintro _ _ _ _ X8 ⟨xa1_9, xk1_10, rfl, q11, q12, q13, _⟩ _ _ _
  refine oU 28 (l' := #[rr pa1, ii 0, ii 2, rr b1, ii 1, rr xa1_9]) X8 d5_26 rfl rfl rfl <| oa 30 X8 d5_28 rfl rfl <| oi 32 X8 d5_30 rfl rfl <| mS 35 0 X8 (rm_getChar G q11 ⟨by decide, by decide⟩ ⟨by decide, by decide⟩ rfl rfl) (u38 G) all0 d5_32 rfl rfl rfl lr (by decide) all0 ?_
  rintro _ _ _ _ X15 rfl K15 _ C15
  refine o_sipush 38 (v := 255) X15 d5_35 rfl (by decide) <| oY 54 X15 d5_38 (by decide) (tlt (by rw [own_gcE bg_pi1]; exact bg_pi1.1)).2.2.1 <| oa 56 X15 d5_54 rfl rfl ?_
  have f16 := q11.k0 K15
  have f17 := q12.keep K15
  have f18 := C15.safe (own_lt (by omega)) q13
  exact oR X15 d5_56 rfl rfl rfl (by decide) (by decide) (fun _ CC => ⟨xa1_9, xk1_10, rfl, f16, f17, (CC.safe (own_lt (by omega)) f18), by omega⟩)
theorem rm_au46 (G : GL l Z a0 zc fmt kpp) (F0 : av0 Z h0 pa1 pk1 4 ps_pa1) : M7 l Z 0 0 0 0 #[.ref pa1, .int 2] h0 n0 [] [] (Q16 Z  h0) := by
  refine mi B7 ef1 (hEW G) fun s X0 hsf0 n0le => ?_
  have := F0.l
  refine oI 1 X0 d7_0 rfl rfl <| oA 2 X0 d7_1 rfl rfl <| oL 3 X0 F0 d7_2 rfl <| o_isub 4 (v := (-2)) X0 d7_3 rfl (by decide) <| ob 6 (v := 31) X0 d7_4 rfl (by decide) <| o_iushr 7 (v := 1) X0 d7_6 rfl (by decide) <| o_i2b 8 (v := 1) X0 d7_7 rfl (by decide) ?_
  exact o_nret (y := (1 : Int32)) (t := .byte) X0 d7_8 rfl (by decide) (by simp) (by decide) (by decide) (fun _ CC => rfl)
def Q24 (Z : State) (b1 : Addr) (b2 : Int32) (h0 : Heap) (v : Option Value) (h : Heap) (vm : Vm) : Prop := ∃ (xa1 : Addr) (xk1 : ClassId), v = none ∧ ex1 Z h b1 ∧ fd1 Z h b1 (.int 1) ∧ fd0 Z h b1 (.ref xa1) ∧ av0 Z h xa1 xk1 4 [.int 47, i0, .int ((b2 >>> ((0 : Int32) &&& 31)).toInt8.toInt32), .int ((b2 >>> ((8 : Int32) &&& 31)).toInt8.toInt32)] ∧ ex0 Z h xa1 ∧ Safe Z EL0 vm h xa1 ∧ h0.size ≤ xa1 ∧ h.size > xa1
theorem rm_au47 (G : GL l Z a0 zc fmt kpp) (F0 : ex1 Z h0 pa1) (F1 : fd1 Z h0 pa1 (.int 0)) (F2 : fd0 Z h0 pa1 .null) (F3 : av1 Z h0 pa2 pk1 2 [.int 47, .int pi1]) (bg_pi1 : (255 : Int32) < pi1 ∧ ¬ (65535 : Int32) < pi1) (ne : NE pa1 pa2 ∧ n0 ≤ pa1) : M4 l Z 4 2 6 57 #[.ref pa1, .ref pa2, i0, .int 2, .null] h0 n0 [pa1] [pa1] (Q24 Z pa1 pi1 h0) := by
  refine mi B4 ef4 (hEW G) fun s X0 hsf0 n0le => ?_
  have := F0.l
  have := F3.l
  have sf_pa1 := hsf0 pa1 (by simp)
  refine oA 1 X0 d4_0 rfl rfl <| o_initO 4 (W := 0) X0 (w12 G) (w13 G) (w14 G) rfl (by decide) (Nat.le_of_eq rfl) (by decide) d4_1 rfl ?_
  intro _ X2
  refine oI 5 X2 d4_4 rfl rfl <| oy 27 X2 d4_5 (by decide) ((if0 _ _).trans (feq (by decide)).2) <| oG 30 X2 (w23 G) Via.refl ((sg5 G).ext X2.old.2) d4_27 rfl ?_
  intro _ X4
  refine on 33 X4 d4_30 rfl ((if0 _ _).trans (feq (hzc G)).1) <| oA 34 X4 d4_33 rfl rfl <| oI 35 X4 d4_34 rfl rfl <| oI 36 X4 d4_35 rfl rfl <| mS 39 0 X4 (rm_au45 G F3 bg_pi1) (u3 G) all0 d4_36 rfl rfl rfl lr (by decide) all0 ?_
  rintro _ _ _ _ X5 ⟨xa1_6, xk1_7, rfl, q8, q9, q10, _⟩ K5 _ C5
  refine oU 41 (l' := #[rr pa1, rr pa2, ii 0, ii 2, .val .null, rr xa1_6]) X5 d4_39 rfl rfl rfl <| oA 42 X5 d4_41 rfl rfl <| oa 44 X5 d4_42 rfl rfl <| oI 45 X5 d4_44 rfl rfl <| mS 48 1 X5 (rm_au46 G q8) (u4 G) all0 d4_45 rfl rfl rfl lr (by decide) all0 ?_
  rintro _ _ _ _ X12 rfl K12 _ C12
  have f13 := (F1.k0 K5).k0 K12
  have f14 := (F0.keep K5).keep K12
  have f16 := C12.safe (own_lt (by omega)) (C5.safe (own_lt (by omega)) sf_pa1)
  refine oP 51 (v' := (.int 1)) X12 (w22 G) Via.refl f13 f14 (Or.inr ⟨(w18 G), rfl, rfl⟩) (w2 G) fd_1 rfl rfl d4_48 rfl (by omega) (Or.inl (by simp)) f16 ?_
  intro _ _ X15 W15 C15
  have := W15.size
  have f17 := f13.same W15
  refine oA 52 X15 d4_51 rfl rfl <| oa 54 X15 d4_52 rfl rfl ?_
  have f18 := ((F2.k0 K5).k0 K12).other W15 (Or.inr (sn1 G))
  have f19 := f14.wr W15
  have f21 := C15.safe (own_lt (by omega)) f16
  refine oP 57 (v' := (.ref xa1_6)) X15 (w21 G) Via.refl f18 f19 (Or.inr ⟨(w17 G), rfl, rfl⟩) (w2 G) fd_0 rfl rfl d4_54 rfl (by omega) (Or.inl (by simp)) f21 ?_
  intro _ _ X20 W20 C20
  have := W20.size
  have f22 := f18.same W20
  have f23 := f19.wr W20
  have f24 := f17.other W20 (Or.inr (sn0 G))
  have f25 := ((q8.k0 K12).oth W15 (by omega)).oth W20 (by omega)
  have f26 := ((q9.keep K12).wr W15).wr W20
  have f27 := C20.safe (own_lt (by omega)) (C15.safe (own_lt (by omega)) (C12.safe (own_lt (by omega)) q10))
  exact oz X20 d4_57 rfl (by decide) (by decide) (fun _ CC => ⟨xa1_6, xk1_7, rfl, f23, f24, f22, f25, f26, (CC.safe (own_lt (by omega)) f27), by omega⟩)
theorem rm_au48 (G : GL l Z a0 zc fmt kpp) (F0 : ex1 Z h0 pa1) (F1 : fd1 Z h0 pa1 (.int 0)) (F2 : fd0 Z h0 pa1 .null) (F3 : av1 Z h0 pa2 pk1 2 [.int 47, .int pi1]) (bg_pi1 : (255 : Int32) < pi1 ∧ ¬ (65535 : Int32) < pi1) (ne : NE pa1 pa2 ∧ n0 ≤ pa1) : M3 l Z 5 2 6 74 #[.ref pa1, .ref pa2] h0 n0 [pa1] [pa1] (Q24 Z pa1 pi1 h0) := by
  refine mi B3 ef3 (hEW G) fun s X0 hsf0 n0le => ?_
  have := F0.l
  have := F3.l
  have sf_pa1 := hsf0 pa1 (by simp)
  refine oA 1 X0 d3_0 rfl rfl <| oA 2 X0 d3_1 rfl rfl <| oc 3 (v := 0) X0 d3_2 rfl (by decide) <| oA 4 X0 d3_3 rfl rfl <| oL 5 X0 F3 d3_4 rfl <| o_aconstNull 6 X0 d3_5 rfl <| mP 9 0 X0 (rm_au47 G F0 F1 F2 F3 bg_pi1 (by omega)) (u0 G) (sS (by omega) sf_pa1 all0) d3_6 rfl rfl rfl lr (by decide) (aI (by omega) (by simp) all0) ?_
  rintro _ _ _ _ X1 ⟨xa1_2, xk1_3, rfl, q4, q5, q6, q7, q8, q9, _⟩ _ _ _
  exact oz X1 d3_9 rfl (by decide) (by decide) (fun _ CC => ⟨xa1_2, xk1_3, rfl, q4, q5, q6, q7, q8, (CC.safe (own_lt (by omega)) q9), by omega⟩)
def Q25 (Z : State) (b1 : Addr) (b2 : ClassId) (h0 : Heap) (v : Option Value) (h : Heap) (vm : Vm) : Prop := v = some (.int 1) ∧ av0 Z h b1 b2 4 [.int 47, i0, i0, i0] ∧ ex0 Z h b1
theorem rm_au49 (G : GL l Z a0 zc fmt kpp) (F0 : av1 Z h0 pa1 pk1 4 [.int 47, .int pi1, .int 47, .int 42]) (F1 : av0 Z h0 pa2 pk2 4 [i0, i0, i0, i0]) (F2 : ex0 Z h0 pa2) (bg_pi1 : (255 : Int32) < pi1 ∧ ¬ (65535 : Int32) < pi1) (ne : NE pa1 pa2 ∧ n0 ≤ pa2) : M6 l Z 0 0 0 0 #[.ref pa1, i0, .ref pa2, i0, .int 4] h0 n0 [pa2] [pa2] (Q25 Z pa2 pk2 h0) := by
  refine mi B6 ef6 (hEW G) fun s X0 hsf0 n0le => ?_
  have := F0.l
  have := F1.l
  have sf_pa2 := hsf0 pa2 (by simp)
  refine oc 1 (v := 0) X0 d6_0 rfl (by decide) <| oS 3 (l' := #[rr pa1, ii 0, rr pa2, ii 0, ii 4, ii 0, uu]) X0 d6_1 rfl rfl <| oi 5 X0 d6_3 rfl rfl <| oi 7 X0 d6_5 rfl rfl <| oN 10 X0 d6_7 rfl (tlt (by decide)).2.1 <| oA 11 X0 d6_10 rfl rfl <| oI 12 X0 d6_11 rfl rfl <| oC 13 (v := (.int 47)) X0 F0 ⟨by decide, by decide⟩ rfl d6_12 rfl <| oS 15 (l' := #[rr pa1, ii 0, rr pa2, ii 0, ii 4, ii 0, ii 47]) X0 d6_13 rfl rfl <| oi 17 X0 d6_15 rfl rfl <| o_sipush 20 (v := 255) X0 d6_17 rfl (by decide) <| oY 26 X0 d6_20 (by decide) (flt (by decide)).2.2.2 ?_
  refine oA 27 X0 d6_26 rfl rfl <| oI 28 X0 d6_27 rfl rfl <| oi 30 X0 d6_28 rfl rfl <| o_i2b 31 (v := 47) X0 d6_30 rfl (by decide) <| sB 32 0 47 X0 F1 (by decide) (lb rfl) (by decide) d6_31 rfl (by omega) (Or.inl (by simp)) sf_pa2 ?_
  rintro _ _ X1 ⟨_, _, W1⟩ _ V1
  have := W1.size
  have V2 := V1.as [.int 47, i0, i0, i0] rfl
  refine oJ 35 1 #[rr pa1, ii 1, rr pa2, ii 0, ii 4, ii 0, ii 47] X1 d6_32 rfl rfl (by decide) rfl <| oJ 38 1 #[rr pa1, ii 1, rr pa2, ii 1, ii 4, ii 0, ii 47] X1 d6_35 rfl rfl (by decide) rfl <| oJ 41 1 #[rr pa1, ii 1, rr pa2, ii 1, ii 4, ii 1, ii 47] X1 d6_38 rfl rfl (by decide) rfl <| og 3 X1 d6_41 (by decide) <| oi 5 X1 d6_3 rfl rfl <| oi 7 X1 d6_5 rfl rfl <| oN 10 X1 d6_7 rfl (tlt (by decide)).2.1 <| oA 11 X1 d6_10 rfl rfl <| oI 12 X1 d6_11 rfl rfl ?_
  have f3 := F0.oth W1 (by omega)
  refine oC 13 (v := (.int pi1)) X1 f3 ⟨by decide, by decide⟩ rfl d6_12 rfl <| oS 15 (l' := #[rr pa1, ii 1, rr pa2, ii 1, ii 4, ii 1, ii pi1]) X1 d6_13 rfl rfl <| oi 17 X1 d6_15 rfl rfl <| o_sipush 20 (v := 255) X1 d6_17 rfl (by decide) <| oN 23 X1 d6_20 rfl (tlt bg_pi1.1).2.2.2 <| oi 25 X1 d6_23 rfl rfl ?_
  have f4 := F2.wr W1
  exact o_iret X1 d6_25 rfl (by decide) (by decide) (fun _ CC => ⟨rfl, V2, f4⟩)
def Q26 (Z : State) (h0 : Heap) (v : Option Value) (h : Heap) (vm : Vm) : Prop := v = some (.int 8)
theorem rm_au50 (G : GL l Z a0 zc fmt kpp)  : M38 l Z 0 0 0 0 #[.int 4] h0 n0 [] [] (Q26 Z  h0) := by
  refine mi B38 ef16 (hEW G) fun s X0 hsf0 n0le => ?_
  refine oI 1 X0 d38_0 rfl rfl <| oy 12 X0 d38_1 (by decide) ((if0 _ _).trans (flt (by decide)).2.1) <| oI 13 X0 d38_12 rfl rfl <| o_ldcI 15 (v := (1073741823 : Int32)) X0 (w199 G) d38_13 rfl <| oY 55 X0 d38_15 (by decide) (tlt (by decide)).1 <| oI 56 X0 d38_55 rfl rfl <| oc 57 (v := 1) X0 d38_56 rfl (by decide) <| o_ishl 58 (v := 8) X0 d38_57 rfl (by decide) ?_
  exact o_iret X0 d38_58 rfl (by decide) (by decide) (fun _ CC => rfl)
def Q27 (Z : State) (h0 : Heap) (v : Option Value) (h : Heap) (vm : Vm) : Prop := ∃ (xa1 : Addr) (xk1 : ClassId), v = some (.ref xa1) ∧ av0 Z h xa1 xk1 8 [i0, i0, i0, i0, i0, i0, i0, i0] ∧ ex0 Z h xa1 ∧ Safe Z EL0 vm h xa1 ∧ h0.size ≤ xa1 ∧ h.size > xa1
theorem rm_au51 (G : GL l Z a0 zc fmt kpp)  : M37 l Z 1 1 8 12 #[.int 4] h0 n0 [] [] (Q27 Z  h0) := by
  refine mi B37 ef16 (hEW G) fun s X0 hsf0 n0le => ?_
  refine oI 1 X0 d37_0 rfl rfl <| mS 4 0 X0 (rm_au50 G ) (u34 G) all0 d37_1 rfl rfl rfl lr (by decide) all0 ?_
  rintro _ _ _ _ X1 rfl _ _ _
  refine nP (aty := .byte) 6 8 X1 (w16 G) d37_4 rfl (by decide) had_byte ?_
  intro _ h2 b2 k2 X2 _ _ _ V2 A2 _ S2
  have V3 : av0 Z h2 b2 k2 8 [i0, i0, i0, i0, i0, i0, i0, i0] := V2.pad (pad_rep [] (.int (0 : Int32)) 8)
  exact oR X2 d37_6 rfl rfl rfl (by decide) (by decide) (fun _ CC => ⟨b2, k2, rfl, V3, A2, (CC.safe (own_lt (by omega)) S2), by omega⟩)
def Q28 (Z : State) (b1 : Int32) (h0 : Heap) (v : Option Value) (h : Heap) (vm : Vm) : Prop := ∃ (xa1 : Addr) (xk1 : ClassId), v = some (.ref xa1) ∧ av0 Z h xa1 xk1 8 [.int 47, i0, .int ((b1 >>> ((0 : Int32) &&& 31)).toInt8.toInt32), .int ((b1 >>> ((8 : Int32) &&& 31)).toInt8.toInt32), .int 47, i0, .int 42, i0] ∧ ex0 Z h xa1 ∧ Safe Z EL0 vm h xa1 ∧ h0.size ≤ xa1 ∧ h.size > xa1
theorem rm_au52 (G : GL l Z a0 zc fmt kpp) (F0 : av1 Z h0 pa1 pk1 4 [.int 47, .int pi1, .int 47, .int 42]) (bg_pi1 : (255 : Int32) < pi1 ∧ ¬ (65535 : Int32) < pi1) : M36 l Z 2 1 8 24 #[.ref pa1, i0, .int 4] h0 n0 [] [] (Q28 Z pi1 h0) := by
  refine mi B36 ef13 (hEW G) fun s X0 hsf0 n0le => ?_
  have := F0.l
  refine oI 1 X0 d36_0 rfl rfl <| mS 4 0 X0 (rm_au51 G ) (u35 G) all0 d36_1 rfl rfl rfl lr (by decide) all0 ?_
  rintro _ _ _ _ X1 ⟨xa1_2, xk1_3, rfl, q4, q5, q6, _⟩ K1 _ _
  refine oV 5 (l' := #[rr pa1, ii 0, ii 4, rr xa1_2, uu]) X1 d36_4 rfl rfl rfl <| oc 6 (v := 0) X1 d36_5 rfl (by decide) <| oS 8 (l' := #[rr pa1, ii 0, ii 4, rr xa1_2, ii 0]) X1 d36_6 rfl rfl <| oi 10 X1 d36_8 rfl rfl <| oI 11 X1 d36_10 rfl rfl <| oN 14 X1 d36_11 rfl (tlt (by decide)).2.1 <| oA 15 X1 d36_14 rfl rfl <| oi 17 X1 d36_15 rfl rfl <| oA 18 X1 d36_17 rfl rfl <| oI 19 X1 d36_18 rfl rfl ?_
  have f8 := F0.k0 K1
  refine oC 20 (v := (.int 47)) X1 f8 ⟨by decide, by decide⟩ rfl d36_19 rfl <| mS 23 0 X1 (rm_putChar G q5 q4 ⟨by decide, by decide⟩ ⟨by decide, by decide⟩ (Nat.le_of_ble_eq_true rfl) (Nat.le_of_ble_eq_true rfl) (by omega)) (u36 G) (sS (by omega) q6 all0) d36_20 rfl rfl rfl lr (by decide) (aR (by omega) all0) ?_
  rintro _ _ _ _ X9 ⟨rfl, q10, q11⟩ K9 _ C9
  have V12 := q11.as [.int 47, i0, i0, i0, i0, i0, i0, i0] rfl
  refine oJ 26 1 #[rr pa1, ii 1, ii 4, rr xa1_2, ii 0] X9 d36_23 rfl rfl (by decide) rfl <| oJ 29 1 #[rr pa1, ii 1, ii 4, rr xa1_2, ii 1] X9 d36_26 rfl rfl (by decide) rfl <| og 8 X9 d36_29 (by decide) <| oi 10 X9 d36_8 rfl rfl <| oI 11 X9 d36_10 rfl rfl <| oN 14 X9 d36_11 rfl (tlt (by decide)).2.1 <| oA 15 X9 d36_14 rfl rfl <| oi 17 X9 d36_15 rfl rfl <| oA 18 X9 d36_17 rfl rfl <| oI 19 X9 d36_18 rfl rfl ?_
  have f13 := f8.k1 K9 (by omega)
  refine oC 20 (v := (.int pi1)) X9 f13 ⟨by decide, by decide⟩ rfl d36_19 rfl ?_
  have f14 := C9.safe (own_lt (by omega)) q6
  refine mS 23 0 X9 (rm_putChar G q10 V12 ⟨by decide, by decide⟩ ⟨by decide, by decide⟩ (Nat.le_of_ble_eq_true rfl) (Nat.le_of_ble_eq_true rfl) (by omega)) (u36 G) (sS (by omega) f14 all0) d36_20 rfl rfl rfl lr (by decide) (aR (by omega) all0) ?_
  rintro _ _ _ _ X15 ⟨rfl, q16, q17⟩ K15 _ C15
  have V18 := q17.as [.int 47, i0, .int ((pi1 >>> ((0 : Int32) &&& 31)).toInt8.toInt32), .int ((pi1 >>> ((8 : Int32) &&& 31)).toInt8.toInt32), i0, i0, i0, i0] rfl
  refine oJ 26 2 #[rr pa1, ii 2, ii 4, rr xa1_2, ii 1] X15 d36_23 rfl rfl (by decide) rfl <| oJ 29 2 #[rr pa1, ii 2, ii 4, rr xa1_2, ii 2] X15 d36_26 rfl rfl (by decide) rfl <| og 8 X15 d36_29 (by decide) <| oi 10 X15 d36_8 rfl rfl <| oI 11 X15 d36_10 rfl rfl <| oN 14 X15 d36_11 rfl (tlt (by decide)).2.1 <| oA 15 X15 d36_14 rfl rfl <| oi 17 X15 d36_15 rfl rfl <| oA 18 X15 d36_17 rfl rfl <| oI 19 X15 d36_18 rfl rfl ?_
  have f19 := f13.k1 K15 (by omega)
  refine oC 20 (v := (.int 47)) X15 f19 ⟨by decide, by decide⟩ rfl d36_19 rfl ?_
  have f20 := C15.safe (own_lt (by omega)) f14
  refine mS 23 0 X15 (rm_putChar G q16 V18 ⟨by decide, by decide⟩ ⟨by decide, by decide⟩ (Nat.le_of_ble_eq_true rfl) (Nat.le_of_ble_eq_true rfl) (by omega)) (u36 G) (sS (by omega) f20 all0) d36_20 rfl rfl rfl lr (by decide) (aR (by omega) all0) ?_
  rintro _ _ _ _ X21 ⟨rfl, q22, q23⟩ K21 _ C21
  have V24 := q23.as [.int 47, i0, .int ((pi1 >>> ((0 : Int32) &&& 31)).toInt8.toInt32), .int ((pi1 >>> ((8 : Int32) &&& 31)).toInt8.toInt32), .int 47, i0, i0, i0] rfl
  refine oJ 26 3 #[rr pa1, ii 3, ii 4, rr xa1_2, ii 2] X21 d36_23 rfl rfl (by decide) rfl <| oJ 29 3 #[rr pa1, ii 3, ii 4, rr xa1_2, ii 3] X21 d36_26 rfl rfl (by decide) rfl <| og 8 X21 d36_29 (by decide) <| oi 10 X21 d36_8 rfl rfl <| oI 11 X21 d36_10 rfl rfl <| oN 14 X21 d36_11 rfl (tlt (by decide)).2.1 <| oA 15 X21 d36_14 rfl rfl <| oi 17 X21 d36_15 rfl rfl <| oA 18 X21 d36_17 rfl rfl <| oI 19 X21 d36_18 rfl rfl ?_
  have f25 := f19.k1 K21 (by omega)
  refine oC 20 (v := (.int 42)) X21 f25 ⟨by decide, by decide⟩ rfl d36_19 rfl ?_
  have f26 := C21.safe (own_lt (by omega)) f20
  refine mS 23 0 X21 (rm_putChar G q22 V24 ⟨by decide, by decide⟩ ⟨by decide, by decide⟩ (Nat.le_of_ble_eq_true rfl) (Nat.le_of_ble_eq_true rfl) (by omega)) (u36 G) (sS (by omega) f26 all0) d36_20 rfl rfl rfl lr (by decide) (aR (by omega) all0) ?_
  rintro _ _ _ _ X27 ⟨rfl, q28, q29⟩ _ _ C27
  have V30 := q29.as [.int 47, i0, .int ((pi1 >>> ((0 : Int32) &&& 31)).toInt8.toInt32), .int ((pi1 >>> ((8 : Int32) &&& 31)).toInt8.toInt32), .int 47, i0, .int 42, i0] rfl
  refine oJ 26 4 #[rr pa1, ii 4, ii 4, rr xa1_2, ii 3] X27 d36_23 rfl rfl (by decide) rfl <| oJ 29 4 #[rr pa1, ii 4, ii 4, rr xa1_2, ii 4] X27 d36_26 rfl rfl (by decide) rfl <| og 8 X27 d36_29 (by decide) <| oi 10 X27 d36_8 rfl rfl <| oI 11 X27 d36_10 rfl rfl <| oY 32 X27 d36_11 (by decide) (flt (by decide)).2.1 <| oA 33 X27 d36_32 rfl rfl ?_
  have f31 := C27.safe (own_lt (by omega)) f26
  exact oR X27 d36_33 rfl rfl rfl (by decide) (by decide) (fun _ CC => ⟨xa1_2, xk1_3, rfl, V30, q28, (CC.safe (own_lt (by omega)) f31), by omega⟩)
theorem rm_au53 (G : GL l Z a0 zc fmt kpp) (F0 : av1 Z h0 pa1 pk1 4 [.int 47, .int pi1, .int 47, .int 42]) (bg_pi1 : (255 : Int32) < pi1 ∧ ¬ (65535 : Int32) < pi1) : M5 l Z 3 2 12 40 #[.ref pa1, i0, .int 4] h0 n0 [] [] (Q28 Z pi1 h0) := by
  refine mi B5 ef5 (hEW G) fun s X0 hsf0 n0le => ?_
  have l1 := F0.l
  refine oI 1 X0 d5_0 rfl rfl <| nP (aty := .byte) 3 4 X0 (w16 G) d5_1 rfl (by decide) had_byte ?_
  intro _ h1 b1 k1 X1 _ l1 E1 V1 A1 _ S1
  have V2 : av0 Z h1 b1 k1 4 [i0, i0, i0, i0] := V1.pad (pad_rep [] (.int (0 : Int32)) 4)
  refine oV 4 (l' := #[rr pa1, ii 0, ii 4, rr b1, uu, uu]) X1 d5_3 rfl rfl rfl <| oA 5 X1 d5_4 rfl rfl <| oI 6 X1 d5_5 rfl rfl <| oA 7 X1 d5_6 rfl rfl <| oc 8 (v := 0) X1 d5_7 rfl (by decide) <| oI 9 X1 d5_8 rfl rfl ?_
  have f3 := F0.ext E1
  refine mS 12 0 X1 (rm_au49 G f3 V2 A1 bg_pi1 (by omega)) (u2 G) (sS (by omega) S1 all0) d5_9 rfl rfl rfl lr (by decide) (aR (by omega) all0) ?_
  rintro _ _ _ _ X4 ⟨rfl, _, _⟩ K4 _ _
  refine oS 14 (l' := #[rr pa1, ii 0, ii 4, rr b1, ii 1, uu]) X4 d5_12 rfl rfl <| oi 16 X4 d5_14 rfl rfl <| oI 17 X4 d5_16 rfl rfl <| oN 20 X4 d5_17 rfl (feq (by decide)).1 <| oA 21 X4 d5_20 rfl rfl <| oI 22 X4 d5_21 rfl rfl <| oI 23 X4 d5_22 rfl rfl ?_
  have f7 := f3.k1 K4 (by omega)
  refine mS 26 0 X4 (rm_au52 G f7 bg_pi1) (u37 G) all0 d5_23 rfl rfl rfl lr (by decide) all0 ?_
  rintro _ _ _ _ X8 ⟨xa1_9, xk1_10, rfl, q11, q12, q13, _⟩ _ _ _
  refine oU 28 (l' := #[rr pa1, ii 0, ii 4, rr b1, ii 1, rr xa1_9]) X8 d5_26 rfl rfl rfl <| oa 30 X8 d5_28 rfl rfl <| oi 32 X8 d5_30 rfl rfl <| mS 35 0 X8 (rm_getChar G q11 ⟨by decide, by decide⟩ ⟨by decide, by decide⟩ rfl rfl) (u38 G) all0 d5_32 rfl rfl rfl lr (by decide) all0 ?_
  rintro _ _ _ _ X15 rfl K15 _ C15
  refine o_sipush 38 (v := 255) X15 d5_35 rfl (by decide) <| oY 54 X15 d5_38 (by decide) (tlt (by rw [own_gcE bg_pi1]; exact bg_pi1.1)).2.2.1 <| oa 56 X15 d5_54 rfl rfl ?_
  have f16 := q11.k0 K15
  have f17 := q12.keep K15
  have f18 := C15.safe (own_lt (by omega)) q13
  exact oR X15 d5_56 rfl rfl rfl (by decide) (by decide) (fun _ CC => ⟨xa1_9, xk1_10, rfl, f16, f17, (CC.safe (own_lt (by omega)) f18), by omega⟩)
theorem rm_au54 (G : GL l Z a0 zc fmt kpp) (F0 : av0 Z h0 pa1 pk1 8 ps_pa1) : M7 l Z 0 0 0 0 #[.ref pa1, .int 4] h0 n0 [] [] (Q16 Z  h0) := by
  refine mi B7 ef1 (hEW G) fun s X0 hsf0 n0le => ?_
  have := F0.l
  refine oI 1 X0 d7_0 rfl rfl <| oA 2 X0 d7_1 rfl rfl <| oL 3 X0 F0 d7_2 rfl <| o_isub 4 (v := (-4)) X0 d7_3 rfl (by decide) <| ob 6 (v := 31) X0 d7_4 rfl (by decide) <| o_iushr 7 (v := 1) X0 d7_6 rfl (by decide) <| o_i2b 8 (v := 1) X0 d7_7 rfl (by decide) ?_
  exact o_nret (y := (1 : Int32)) (t := .byte) X0 d7_8 rfl (by decide) (by simp) (by decide) (by decide) (fun _ CC => rfl)
def Q29 (Z : State) (b1 : Addr) (b2 : Int32) (h0 : Heap) (v : Option Value) (h : Heap) (vm : Vm) : Prop := ∃ (xa1 : Addr) (xk1 : ClassId), v = none ∧ ex1 Z h b1 ∧ fd1 Z h b1 (.int 1) ∧ fd0 Z h b1 (.ref xa1) ∧ av0 Z h xa1 xk1 8 [.int 47, i0, .int ((b2 >>> ((0 : Int32) &&& 31)).toInt8.toInt32), .int ((b2 >>> ((8 : Int32) &&& 31)).toInt8.toInt32), .int 47, i0, .int 42, i0] ∧ ex0 Z h xa1 ∧ Safe Z EL0 vm h xa1 ∧ h0.size ≤ xa1 ∧ h.size > xa1
theorem rm_au55 (G : GL l Z a0 zc fmt kpp) (F0 : ex1 Z h0 pa1) (F1 : fd1 Z h0 pa1 (.int 0)) (F2 : fd0 Z h0 pa1 .null) (F3 : av1 Z h0 pa2 pk1 4 [.int 47, .int pi1, .int 47, .int 42]) (bg_pi1 : (255 : Int32) < pi1 ∧ ¬ (65535 : Int32) < pi1) (ne : NE pa1 pa2 ∧ n0 ≤ pa1) : M4 l Z 4 2 12 57 #[.ref pa1, .ref pa2, i0, .int 4, .null] h0 n0 [pa1] [pa1] (Q29 Z pa1 pi1 h0) := by
  refine mi B4 ef4 (hEW G) fun s X0 hsf0 n0le => ?_
  have := F0.l
  have := F3.l
  have sf_pa1 := hsf0 pa1 (by simp)
  refine oA 1 X0 d4_0 rfl rfl <| o_initO 4 (W := 0) X0 (w12 G) (w13 G) (w14 G) rfl (by decide) (Nat.le_of_eq rfl) (by decide) d4_1 rfl ?_
  intro _ X2
  refine oI 5 X2 d4_4 rfl rfl <| oy 27 X2 d4_5 (by decide) ((if0 _ _).trans (feq (by decide)).2) <| oG 30 X2 (w23 G) Via.refl ((sg5 G).ext X2.old.2) d4_27 rfl ?_
  intro _ X4
  refine on 33 X4 d4_30 rfl ((if0 _ _).trans (feq (hzc G)).1) <| oA 34 X4 d4_33 rfl rfl <| oI 35 X4 d4_34 rfl rfl <| oI 36 X4 d4_35 rfl rfl <| mS 39 0 X4 (rm_au53 G F3 bg_pi1) (u3 G) all0 d4_36 rfl rfl rfl lr (by decide) all0 ?_
  rintro _ _ _ _ X5 ⟨xa1_6, xk1_7, rfl, q8, q9, q10, _⟩ K5 _ C5
  refine oU 41 (l' := #[rr pa1, rr pa2, ii 0, ii 4, .val .null, rr xa1_6]) X5 d4_39 rfl rfl rfl <| oA 42 X5 d4_41 rfl rfl <| oa 44 X5 d4_42 rfl rfl <| oI 45 X5 d4_44 rfl rfl <| mS 48 1 X5 (rm_au54 G q8) (u4 G) all0 d4_45 rfl rfl rfl lr (by decide) all0 ?_
  rintro _ _ _ _ X12 rfl K12 _ C12
  have f13 := (F1.k0 K5).k0 K12
  have f14 := (F0.keep K5).keep K12
  have f16 := C12.safe (own_lt (by omega)) (C5.safe (own_lt (by omega)) sf_pa1)
  refine oP 51 (v' := (.int 1)) X12 (w22 G) Via.refl f13 f14 (Or.inr ⟨(w18 G), rfl, rfl⟩) (w2 G) fd_1 rfl rfl d4_48 rfl (by omega) (Or.inl (by simp)) f16 ?_
  intro _ _ X15 W15 C15
  have := W15.size
  have f17 := f13.same W15
  refine oA 52 X15 d4_51 rfl rfl <| oa 54 X15 d4_52 rfl rfl ?_
  have f18 := ((F2.k0 K5).k0 K12).other W15 (Or.inr (sn1 G))
  have f19 := f14.wr W15
  have f21 := C15.safe (own_lt (by omega)) f16
  refine oP 57 (v' := (.ref xa1_6)) X15 (w21 G) Via.refl f18 f19 (Or.inr ⟨(w17 G), rfl, rfl⟩) (w2 G) fd_0 rfl rfl d4_54 rfl (by omega) (Or.inl (by simp)) f21 ?_
  intro _ _ X20 W20 C20
  have := W20.size
  have f22 := f18.same W20
  have f23 := f19.wr W20
  have f24 := f17.other W20 (Or.inr (sn0 G))
  have f25 := ((q8.k0 K12).oth W15 (by omega)).oth W20 (by omega)
  have f26 := ((q9.keep K12).wr W15).wr W20
  have f27 := C20.safe (own_lt (by omega)) (C15.safe (own_lt (by omega)) (C12.safe (own_lt (by omega)) q10))
  exact oz X20 d4_57 rfl (by decide) (by decide) (fun _ CC => ⟨xa1_6, xk1_7, rfl, f23, f24, f22, f25, f26, (CC.safe (own_lt (by omega)) f27), by omega⟩)
theorem rm_au56 (G : GL l Z a0 zc fmt kpp) (F0 : ex1 Z h0 pa1) (F1 : fd1 Z h0 pa1 (.int 0)) (F2 : fd0 Z h0 pa1 .null) (F3 : av1 Z h0 pa2 pk1 4 [.int 47, .int pi1, .int 47, .int 42]) (bg_pi1 : (255 : Int32) < pi1 ∧ ¬ (65535 : Int32) < pi1) (ne : NE pa1 pa2 ∧ n0 ≤ pa1) : M3 l Z 5 2 12 74 #[.ref pa1, .ref pa2] h0 n0 [pa1] [pa1] (Q29 Z pa1 pi1 h0) := by
  refine mi B3 ef3 (hEW G) fun s X0 hsf0 n0le => ?_
  have := F0.l
  have := F3.l
  have sf_pa1 := hsf0 pa1 (by simp)
  refine oA 1 X0 d3_0 rfl rfl <| oA 2 X0 d3_1 rfl rfl <| oc 3 (v := 0) X0 d3_2 rfl (by decide) <| oA 4 X0 d3_3 rfl rfl <| oL 5 X0 F3 d3_4 rfl <| o_aconstNull 6 X0 d3_5 rfl <| mP 9 0 X0 (rm_au55 G F0 F1 F2 F3 bg_pi1 (by omega)) (u0 G) (sS (by omega) sf_pa1 all0) d3_6 rfl rfl rfl lr (by decide) (aI (by omega) (by simp) all0) ?_
  rintro _ _ _ _ X1 ⟨xa1_2, xk1_3, rfl, q4, q5, q6, q7, q8, q9, _⟩ _ _ _
  exact oz X1 d3_9 rfl (by decide) (by decide) (fun _ CC => ⟨xa1_2, xk1_3, rfl, q4, q5, q6, q7, q8, (CC.safe (own_lt (by omega)) q9), by omega⟩)
theorem rm_au57 (G : GL l Z a0 zc fmt kpp) (F0 : fd1 Z h0 pa1 (.int 1)) : M14 l Z 0 0 0 0 #[.ref pa1] h0 n0 [] [] (Q16 Z  h0) := by
  refine mi B14 ef7 (hEW G) fun s X0 hsf0 n0le => ?_
  have := F0.l
  refine oG 3 X0 (w23 G) Via.refl ((sg5 G).ext X0.old.2) d14_0 rfl ?_
  intro _ X2
  refine on 6 X2 d14_3 rfl ((if0 _ _).trans (feq (hzc G)).1) <| oA 7 X2 d14_6 rfl rfl <| oF 10 X2 (w22 G) Via.refl F0 d14_7 rfl ?_
  intro _ X4
  refine og 14 X4 d14_10 (by decide) ?_
  exact o_nret (y := (1 : Int32)) (t := .byte) X4 d14_14 rfl (by decide) (by simp) (by decide) (by decide) (fun _ CC => rfl)
theorem rm_au58 (G : GL l Z a0 zc fmt kpp) (F0 : ex1 Z h0 pa1) (F1 : fd1 Z h0 pa1 (.int 1)) (F2 : fd0 Z h0 pa1 (.ref pa2)) (F3 : av0 Z h0 pa2 pk1 4 ps_pa2) : M13 l Z 1 0 0 13 #[.ref pa1] h0 n0 [] [] (Q11 Z  h0) := by
  refine mi B13 ef7 (hEW G) fun s X0 hsf0 n0le => ?_
  have := F0.l
  have := F3.l
  refine oA 1 X0 d13_0 rfl rfl <| oF 4 X0 (w21 G) Via.refl F2 d13_1 rfl ?_
  intro _ X2
  refine oL 5 X2 F3 d13_4 rfl <| oA 6 X2 d13_5 rfl rfl <| mV 9 1 X2 F0 (rm_au57 G F1) (u7 G) all0 d13_6 rfl rfl rfl lr (by decide) all0 ?_
  rintro _ _ _ _ X3 rfl _ _ _
  refine o_ishr 10 (v := 2) X3 d13_9 rfl (by decide) ?_
  exact o_iret X3 d13_10 rfl (by decide) (by decide) (fun _ CC => rfl)
def Q30 (Z : State) (h0 : Heap) (v : Option Value) (h : Heap) (vm : Vm) : Prop := v = some (.int 32)
theorem rm_au59 (G : GL l Z a0 zc fmt kpp)  : M38 l Z 0 0 0 0 #[.int 16] h0 n0 [] [] (Q30 Z  h0) := by
  refine mi B38 ef16 (hEW G) fun s X0 hsf0 n0le => ?_
  refine oI 1 X0 d38_0 rfl rfl <| oy 12 X0 d38_1 (by decide) ((if0 _ _).trans (flt (by decide)).2.1) <| oI 13 X0 d38_12 rfl rfl <| o_ldcI 15 (v := (1073741823 : Int32)) X0 (w199 G) d38_13 rfl <| oY 55 X0 d38_15 (by decide) (tlt (by decide)).1 <| oI 56 X0 d38_55 rfl rfl <| oc 57 (v := 1) X0 d38_56 rfl (by decide) <| o_ishl 58 (v := 32) X0 d38_57 rfl (by decide) ?_
  exact o_iret X0 d38_58 rfl (by decide) (by decide) (fun _ CC => rfl)
def Q31 (Z : State) (h0 : Heap) (v : Option Value) (h : Heap) (vm : Vm) : Prop := ∃ (xa1 : Addr) (xk1 : ClassId), v = some (.ref xa1) ∧ av0 Z h xa1 xk1 32 [i0, i0, i0, i0, i0, i0, i0, i0, i0, i0, i0, i0, i0, i0, i0, i0, i0, i0, i0, i0, i0, i0, i0, i0, i0, i0, i0, i0, i0, i0, i0, i0] ∧ ex0 Z h xa1 ∧ Safe Z EL0 vm h xa1 ∧ h0.size ≤ xa1 ∧ h.size > xa1
theorem rm_au60 (G : GL l Z a0 zc fmt kpp)  : M37 l Z 1 1 32 12 #[.int 16] h0 n0 [] [] (Q31 Z  h0) := by
  refine mi B37 ef16 (hEW G) fun s X0 hsf0 n0le => ?_
  refine oI 1 X0 d37_0 rfl rfl <| mS 4 0 X0 (rm_au59 G ) (u34 G) all0 d37_1 rfl rfl rfl lr (by decide) all0 ?_
  rintro _ _ _ _ X1 rfl _ _ _
  refine nP (aty := .byte) 6 32 X1 (w16 G) d37_4 rfl (by decide) had_byte ?_
  intro _ h2 b2 k2 X2 _ _ _ V2 A2 _ S2
  have V3 : av0 Z h2 b2 k2 32 [i0, i0, i0, i0, i0, i0, i0, i0, i0, i0, i0, i0, i0, i0, i0, i0, i0, i0, i0, i0, i0, i0, i0, i0, i0, i0, i0, i0, i0, i0, i0, i0] := V2.pad (pad_rep [] (.int (0 : Int32)) 32)
  exact oR X2 d37_6 rfl rfl rfl (by decide) (by decide) (fun _ CC => ⟨b2, k2, rfl, V3, A2, (CC.safe (own_lt (by omega)) S2), by omega⟩)
def Q32 (Z : State) (h0 : Heap) (v : Option Value) (h : Heap) (vm : Vm) : Prop := v = some (.int 16)
theorem rm_au61 (G : GL l Z a0 zc fmt kpp) (F0 : av0 Z h0 pa1 pk1 32 ps_pa1) : M43 l Z 0 0 0 0 #[.ref pa1] h0 n0 [] [] (Q32 Z  h0) := by
  refine mi B43 ef7 (hEW G) fun s X0 hsf0 n0le => ?_
  have := F0.l
  refine oA 1 X0 d43_0 rfl rfl <| oL 2 X0 F0 d43_1 rfl <| oc 3 (v := 1) X0 d43_2 rfl (by decide) <| o_ishr 4 (v := 16) X0 d43_3 rfl (by decide) ?_
  exact o_iret X0 d43_4 rfl (by decide) (by decide) (fun _ CC => rfl)
theorem rm_au62 (G : GL l Z a0 zc fmt kpp) (pc_0 : ¬ ((pi3 ||| pi1) ||| pi2) < (0 : Int32)) (pc_1 : ¬ (pi3 - pi1) < pi2) (r_fmt : fmt.isRef = true) : M45 l Z 0 0 0 0 #[.int pi1, .int pi2, .int pi3, fmt] h0 n0 [] [] (Q15 Z pi1 h0) := by
  refine mi B45 (ef22 r_fmt) (hEW G) fun s X0 hsf0 n0le => ?_
  refine oI 1 X0 d45_0 rfl rfl <| oI 2 X0 d45_1 rfl rfl <| o_ior 3 (v := (pi3 ||| pi1)) X0 d45_2 rfl rfl <| oI 4 X0 d45_3 rfl rfl <| o_ior 5 (v := ((pi3 ||| pi1) ||| pi2)) X0 d45_4 rfl rfl <| on 8 X0 d45_5 rfl ((if0 _ _).trans (flt pc_0).1) <| oI 9 X0 d45_8 rfl rfl <| oI 10 X0 d45_9 rfl rfl <| oI 11 X0 d45_10 rfl rfl <| o_isub 12 (v := (pi3 - pi1)) X0 d45_11 rfl rfl <| oY 23 X0 d45_12 (by decide) (flt pc_1).2.2.2 <| oI 24 X0 d45_23 rfl rfl ?_
  exact o_iret X0 d45_24 rfl (by decide) (by decide) (fun _ CC => rfl)
theorem rm_au63 (G : GL l Z a0 zc fmt kpp) (pc_0 : ¬ ((pi102 ||| pi1) ||| pi2) < (0 : Int32)) (pc_1 : ¬ (pi102 - pi1) < pi2) : M44 l Z 1 0 0 15 #[.int pi1, .int pi2, .int pi102] h0 n0 [] [] (Q15 Z pi1 h0) := by
  refine mi B44 ef21 (hEW G) fun s X0 hsf0 n0le => ?_
  refine oI 1 X0 d44_0 rfl rfl <| oI 2 X0 d44_1 rfl rfl <| oI 3 X0 d44_2 rfl rfl <| oG 6 X0 (w231 G) Via.refl ((sg0 G).ext X0.old.2) d44_3 rfl ?_
  intro _ X2
  refine mS 9 0 X2 (rm_au62 G pc_0 pc_1 (hfmt G)) (u42 G) all0 d44_6 rfl rfl rfl lr (by decide) all0 ?_
  rintro _ _ _ _ X3 rfl _ _ _
  exact o_iret X3 d44_9 rfl (by decide) (by decide) (fun _ CC => rfl)
theorem rm_au64 (G : GL l Z a0 zc fmt kpp) (F0 : av0 Z h0 pa1 pk1 32 ps_pa1) (pc_0 : ¬ (((16 : Int32) ||| pi1) ||| pi2) < (0 : Int32)) (pc_1 : ¬ ((16 : Int32) - pi1) < pi2) : M42 l Z 2 0 0 29 #[.int pi1, .int pi2, .ref pa1] h0 n0 [] [] (Q8 Z  h0) := by
  refine mi B42 ef20 (hEW G) fun s X0 hsf0 n0le => ?_
  have := F0.l
  refine oI 1 X0 d42_0 rfl rfl <| oI 2 X0 d42_1 rfl rfl <| oA 3 X0 d42_2 rfl rfl <| mS 6 2 X0 (rm_au61 G F0) (u41 G) all0 d42_3 rfl rfl rfl lr (by decide) all0 ?_
  rintro _ _ _ _ X1 rfl _ _ _
  refine mS 9 0 X1 (rm_au63 G pc_0 pc_1) (u43 G) all0 d42_6 rfl rfl rfl lr (by decide) all0 ?_
  rintro _ _ _ _ X2 rfl _ _ _
  refine o_pop 10 X2 d42_9 rfl rfl ?_
  exact oz X2 d42_10 rfl (by decide) (by decide) (fun _ CC => rfl)
theorem rm_au65 (G : GL l Z a0 zc fmt kpp) (F0 : av0 Z h0 pa2 pk2 32 ps_pa2) (pc_0 : ¬ (((16 : Int32) ||| pi2) ||| pi3) < (0 : Int32)) (pc_1 : ¬ ((16 : Int32) - pi2) < pi3) (pc_2 : ¬ (0 : Int32) < pi3) : M41 l Z 3 0 0 43 #[.ref pa1, .int pi1, .ref pa2, .int pi2, .int pi3] h0 n0 [] [] (Q8 Z  h0) := by
  refine mi B41 ef19 (hEW G) fun s X0 hsf0 n0le => ?_
  have := F0.l
  refine oI 1 X0 d41_0 rfl rfl <| oi 3 X0 d41_1 rfl rfl <| oA 4 X0 d41_3 rfl rfl <| mS 7 0 X0 (rm_au64 G F0 pc_0 pc_1) (u44 G) all0 d41_4 rfl rfl rfl lr (by decide) all0 ?_
  rintro _ _ _ _ X1 rfl _ _ _
  refine oc 8 (v := 0) X1 d41_7 rfl (by decide) <| oS 10 (l' := #[rr pa1, ii pi1, rr pa2, ii pi2, ii pi3, ii 0]) X1 d41_8 rfl rfl <| oi 12 X1 d41_10 rfl rfl <| oi 14 X1 d41_12 rfl rfl <| oY 41 X1 d41_14 (by decide) (flt pc_2).2.1 ?_
  exact oz X1 d41_41 rfl (by decide) (by decide) (fun _ CC => rfl)
theorem rm_au66 (G : GL l Z a0 zc fmt kpp) (F0 : av0 Z h0 pa2 pk2 32 ps_pa2) (pc_0 : ¬ (((16 : Int32) ||| pi102) ||| pi1) < (0 : Int32)) (pc_1 : ¬ ((16 : Int32) - pi102) < pi1) (pc_2 : ¬ (0 : Int32) < pi1) : M40 l Z 4 0 0 60 #[.ref pa1, .int pi101, .ref pa2, .int pi102, .int pi1] h0 n0 [] [] (Q8 Z  h0) := by
  refine mi B40 ef18 (hEW G) fun s X0 hsf0 n0le => ?_
  have := F0.l
  refine oA 1 X0 d40_0 rfl rfl <| oI 2 X0 d40_1 rfl rfl <| oA 3 X0 d40_2 rfl rfl <| oI 4 X0 d40_3 rfl rfl <| oi 6 X0 d40_4 rfl rfl <| mS 9 0 X0 (rm_au65 G F0 pc_0 pc_1 pc_2) (u45 G) all0 d40_6 rfl rfl rfl lr (by decide) all0 ?_
  rintro _ _ _ _ X1 rfl _ _ _
  exact oz X1 d40_9 rfl (by decide) (by decide) (fun _ CC => rfl)
def Q33 (Z : State) (b1 : Addr) (b2 b3 : Int32) (h0 : Heap) (v : Option Value) (h : Heap) (vm : Vm) : Prop := ∃ (xa1 : Addr) (xk1 : ClassId), v = none ∧ ex3 Z h b1 ∧ fd6 Z h b1 (.int 1) ∧ fd7 Z h b1 (.int b2) ∧ fd8 Z h b1 (.int b3) ∧ fd5 Z h b1 (.ref xa1) ∧ av0 Z h xa1 xk1 32 [i0, i0, i0, i0, i0, i0, i0, i0, i0, i0, i0, i0, i0, i0, i0, i0, i0, i0, i0, i0, i0, i0, i0, i0, i0, i0, i0, i0, i0, i0, i0, i0] ∧ ex0 Z h xa1 ∧ Safe Z EL0 vm h xa1 ∧ h0.size ≤ xa1 ∧ h.size > xa1
theorem rm_au67 (G : GL l Z a0 zc fmt kpp) (F0 : ex3 Z h0 pa1) (F1 : fd6 Z h0 pa1 (.int pi100)) (F2 : fd7 Z h0 pa1 (.int pi101)) (F3 : fd8 Z h0 pa1 (.int pi102)) (F4 : fd5 Z h0 pa1 (.ref pa2)) (F5 : av0 Z h0 pa2 pk1 16 ps_pa2) (pc_0 : pi100 = (0 : Int32)) (pc_1 : ¬ (((16 : Int32) ||| (0 : Int32)) ||| pi101) < (0 : Int32)) (pc_2 : ¬ ((16 : Int32) - (0 : Int32)) < pi101) (pc_3 : ¬ (0 : Int32) < pi101) (ne : NE pa1 pa2 ∧ n0 ≤ pa1) : M39 l Z 5 1 32 76 #[.ref pa1] h0 n0 [pa1] [] (Q33 Z pa1 pi101 pi102 h0) := by
  refine mi B39 ef17 (hEW G) fun s X0 hsf0 n0le => ?_
  have := F0.l
  have := F5.l
  refine oA 1 X0 d39_0 rfl rfl <| mV 4 0 X0 F0 (rm_au25 G F1 pc_0) (u39 G) all0 d39_1 rfl rfl rfl lr (by decide) all0 ?_
  rintro _ _ _ _ X1 rfl K1 _ _
  refine oy 8 X1 d39_4 (by decide) ((if0 _ _).trans (feq (by decide)).2) <| oA 9 X1 d39_8 rfl rfl ?_
  have f2 := F4.k0 K1
  refine oF 12 X1 (w54 G) Via.refl f2 d39_9 rfl ?_
  intro _ X4
  have f5 := F5.k0 K1
  refine oL 13 X4 f5 d39_12 rfl <| mS 16 0 X4 (rm_au60 G ) (u40 G) all0 d39_13 rfl rfl rfl lr (by decide) all0 ?_
  rintro _ _ _ _ X6 ⟨xa1_7, xk1_8, rfl, q9, q10, q11, _⟩ K6 _ _
  refine oV 17 (l' := #[rr pa1, rr xa1_7]) X6 d39_16 rfl rfl rfl <| oA 18 X6 d39_17 rfl rfl ?_
  have f13 := f2.k0 K6
  refine oF 21 X6 (w54 G) Via.refl f13 d39_18 rfl ?_
  intro _ X15
  refine oc 22 (v := 0) X15 d39_21 rfl (by decide) <| oA 23 X15 d39_22 rfl rfl <| oc 24 (v := 0) X15 d39_23 rfl (by decide) <| oA 25 X15 d39_24 rfl rfl ?_
  have f16 := (F2.k0 K1).k0 K6
  refine oF 28 X15 (w78 G) Via.refl f16 d39_25 rfl ?_
  intro _ X18
  refine mS 31 0 X18 (rm_au66 G q9 pc_1 pc_2 pc_3) (u46 G) all0 d39_28 rfl rfl rfl lr (by decide) all0 ?_
  rintro _ _ _ _ X19 rfl K19 _ C19
  refine oA 32 X19 d39_31 rfl rfl <| oA 33 X19 d39_32 rfl rfl ?_
  have f20 := f13.k0 K19
  have f21 := ((F0.keep K1).keep K6).keep K19
  refine oP 36 (v' := (.ref xa1_7)) X19 (w54 G) Via.refl f20 f21 (Or.inl (w55 G)) (w41 G) fd_0 rfl rfl d39_33 rfl (by omega) (Or.inl (by simp)) (sx X19 f21 nc1) ?_
  intro _ _ X22 W22 C22
  have := W22.size
  have f23 := f20.same W22
  refine oA 37 X22 d39_36 rfl rfl <| oc 38 (v := 1) X22 d39_37 rfl (by decide) ?_
  have f24 := (((F1.k0 K1).k0 K6).k0 K19).other W22 (Or.inr (sn2 G))
  have f25 := f21.wr W22
  refine oP 41 (v' := (.int 1)) X22 (w56 G) Via.refl f24 f25 (Or.inl (w57 G)) (w41 G) fd_1 rfl rfl d39_38 rfl (by omega) (Or.inl (by simp)) (sx X22 f25 nc1) ?_
  intro _ _ X26 W26 C26
  have := W26.size
  have f27 := f24.same W26
  have f28 := f25.wr W26
  have f29 := ((f16.k0 K19).other W22 (Or.inr (sn3 G))).other W26 (Or.inr (sn4 G))
  have f30 := ((((F3.k0 K1).k0 K6).k0 K19).other W22 (Or.inr (sn5 G))).other W26 (Or.inr (sn6 G))
  have f31 := f23.other W26 (Or.inr (sn7 G))
  have f32 := ((q9.k0 K19).oth W22 (by omega)).oth W26 (by omega)
  have f33 := ((q10.keep K19).wr W22).wr W26
  have f34 := C26.safe (own_lt (by omega)) (C22.safe (own_lt (by omega)) (C19.safe (own_lt (by omega)) q11))
  exact oz X26 d39_41 rfl (by decide) (by decide) (fun _ CC => ⟨xa1_7, xk1_8, rfl, f28, f27, f29, f30, f31, f32, f33, (CC.safe (own_lt (by omega)) f34), by omega⟩)
def Q34 (Z : State) (b1 : Addr) (h0 : Heap) (v : Option Value) (h : Heap) (vm : Vm) : Prop := ∃ (xa1 : Addr) (xk1 : ClassId), v = none ∧ ex3 Z h b1 ∧ fd6 Z h b1 (.int 1) ∧ fd7 Z h b1 (.int 0) ∧ fd8 Z h b1 (.int 0) ∧ fd5 Z h b1 (.ref xa1) ∧ av0 Z h xa1 xk1 32 [i0, i0, i0, i0, i0, i0, i0, i0, i0, i0, i0, i0, i0, i0, i0, i0, i0, i0, i0, i0, i0, i0, i0, i0, i0, i0, i0, i0, i0, i0, i0, i0] ∧ ex0 Z h xa1 ∧ Safe Z EL0 vm h xa1 ∧ h0.size ≤ xa1 ∧ h.size > xa1
theorem rm_au68 (G : GL l Z a0 zc fmt kpp) (F0 : ex3 Z h0 pa1) (F1 : fd6 Z h0 pa1 (.int 0)) (F2 : fd7 Z h0 pa1 (.int 0)) (F3 : fd8 Z h0 pa1 (.int 0)) (F4 : fd5 Z h0 pa1 (.ref pa3)) (F5 : ex1 Z h0 pa2) (F6 : fd1 Z h0 pa2 (.int 1)) (F7 : av0 Z h0 pa3 pk1 16 ps_pa3) (ne : NE pa1 pa2 ∧ NE pa1 pa3 ∧ n0 ≤ pa1) : M17 l Z 6 1 32 89 #[.ref pa1, .ref pa2] h0 n0 [pa1] [] (Q34 Z pa1 h0) := by
  refine mi B17 ef3 (hEW G) fun s X0 hsf0 n0le => ?_
  have := F0.l
  have := F5.l
  have := F7.l
  refine oG 3 X0 (w53 G) Via.refl ((sg5 G).ext X0.old.2) d17_0 rfl ?_
  intro _ X2
  refine on 6 X2 d17_3 rfl ((if0 _ _).trans (feq (hzc G)).1) <| oA 7 X2 d17_6 rfl rfl <| oF 10 X2 (w56 G) Via.refl F1 d17_7 rfl ?_
  intro _ X4
  refine oA 11 X4 d17_10 rfl rfl <| mV 14 1 X4 F5 (rm_au57 G F6) (u10 G) all0 d17_11 rfl rfl rfl lr (by decide) all0 ?_
  rintro _ _ _ _ X5 rfl K5 _ _
  refine oN 17 X5 d17_14 rfl (feq (by decide)).1 <| oA 18 X5 d17_17 rfl rfl ?_
  have f6 := F0.keep K5
  have f7 := F1.k0 K5
  have f8 := F2.k0 K5
  have f9 := F3.k0 K5
  have f10 := F4.k0 K5
  have f11 := F7.k0 K5
  refine mV 21 0 X5 f6 (rm_au67 G f6 f7 f8 f9 f10 f11 (by decide) (by decide) (by decide) (by decide) (by omega)) (u47 G) all0 d17_18 rfl rfl rfl lr (by decide) (aI (by omega) (by simp) all0) ?_
  rintro _ _ _ _ X12 ⟨xa1_13, xk1_14, rfl, q15, q16, q17, q18, q19, q20, q21, q22, _⟩ _ _ _
  exact oz X12 d17_21 rfl (by decide) (by decide) (fun _ CC => ⟨xa1_13, xk1_14, rfl, q15, q16, q17, q18, q19, q20, q21, (CC.safe (own_lt (by omega)) q22), by omega⟩)
def Q35 (Z : State) (b1 : Addr) (b2 : ClassId) (b3 b4 b5 b6 : Int32) (h0 : Heap) (v : Option Value) (h : Heap) (vm : Vm) : Prop := v = none ∧ av0 Z h b1 b2 32 [.int b3, .int b4, .int b5, .int b6, i0, i0, i0, i0, i0, i0, i0, i0, i0, i0, i0, i0, i0, i0, i0, i0, i0, i0, i0, i0, i0, i0, i0, i0, i0, i0, i0, i0] ∧ ex0 Z h b1
theorem rm_au69 (G : GL l Z a0 zc fmt kpp) (F0 : ex1 Z h0 pa1) (F1 : fd1 Z h0 pa1 (.int 1)) (F2 : fd0 Z h0 pa1 (.ref pa3)) (F3 : av0 Z h0 pa2 pk1 32 [i0, i0, i0, i0, i0, i0, i0, i0, i0, i0, i0, i0, i0, i0, i0, i0, i0, i0, i0, i0, i0, i0, i0, i0, i0, i0, i0, i0, i0, i0, i0, i0]) (F4 : ex0 Z h0 pa2) (F5 : av0 Z h0 pa3 pk2 4 [.int pi1, .int pi2, .int pi3, .int pi4]) (ne : NE pa1 pa2 ∧ NE pa2 pa3 ∧ n0 ≤ pa2) : M18 l Z 1 0 0 40 #[.ref pa1, .ref pa2, i0, .int 1] h0 n0 [pa2] [pa2] (Q35 Z pa2 pk1 pi1 pi2 pi3 pi4 h0) := by
  refine mi B18 ef11 (hEW G) fun s X0 hsf0 n0le => ?_
  have := F0.l
  have := F3.l
  have := F5.l
  have sf_pa2 := hsf0 pa2 (by simp)
  refine oA 1 X0 d18_0 rfl rfl <| mV 4 0 X0 F0 (rm_au57 G F1) (u7 G) all0 d18_1 rfl rfl rfl lr (by decide) all0 ?_
  rintro _ _ _ _ X1 rfl K1 _ C1
  refine oI 5 X1 d18_4 rfl rfl <| oN 8 X1 d18_5 rfl (teq (by decide)).2 <| oA 9 X1 d18_8 rfl rfl ?_
  have f2 := F2.k0 K1
  refine oF 12 X1 (w21 G) Via.refl f2 d18_9 rfl ?_
  intro _ X4
  refine oc 13 (v := 0) X4 d18_12 rfl (by decide) <| oA 14 X4 d18_13 rfl rfl <| oI 15 X4 d18_14 rfl rfl <| oI 16 X4 d18_15 rfl rfl <| o_ishl 17 (v := 0) X4 d18_16 rfl (by decide) <| oA 18 X4 d18_17 rfl rfl <| oF 21 X4 (w21 G) Via.refl f2 d18_18 rfl ?_
  intro _ X6
  have f7 := F5.k0 K1
  refine oL 22 X6 f7 d18_21 rfl ?_
  have f8 := F3.k0 K1
  have f9 := C1.safe (own_lt (by omega)) sf_pa2
  refine o_cp 25 (us := [.int pi1, .int pi2, .int pi3, .int pi4]) (vr := [.int pi1, .int pi2, .int pi3, .int pi4, i0, i0, i0, i0, i0, i0, i0, i0, i0, i0, i0, i0, i0, i0, i0, i0, i0, i0, i0, i0, i0, i0, i0, i0, i0, i0, i0, i0]) (W := 0) X6 (w101 G) (w104 G) (w102 G) (w103 G) f7 f8 (Or.inl ⟨rfl, rfl⟩) (by decide) (by decide) (by decide) (by decide) (by decide) rfl (Nat.le_of_ble_eq_true rfl) rfl d18_22 rfl rfl (by decide) (Nat.le_of_eq rfl) (by decide) (by omega) (Or.inl (by simp)) f9 ?_
  intro _ _ X10 K10 _ V10
  have := K10.1
  refine og 43 X10 d18_25 (by decide) ?_
  have f11 := (F4.keep K1).keep K10
  exact oz X10 d18_43 rfl (by decide) (by decide) (fun _ CC => ⟨rfl, V10, f11⟩)
def Q36 (Z : State) (b1 : Addr) (b2 b3 b4 b5 : Int32) (h0 : Heap) (v : Option Value) (h : Heap) (vm : Vm) : Prop := ∃ (xa1 : Addr) (xk1 : ClassId), v = none ∧ ex3 Z h b1 ∧ fd6 Z h b1 (.int 1) ∧ fd7 Z h b1 (.int 0) ∧ fd8 Z h b1 (.int 0) ∧ fd5 Z h b1 (.ref xa1) ∧ av0 Z h xa1 xk1 32 [.int b2, .int b3, .int b4, .int b5, i0, i0, i0, i0, i0, i0, i0, i0, i0, i0, i0, i0, i0, i0, i0, i0, i0, i0, i0, i0, i0, i0, i0, i0, i0, i0, i0, i0] ∧ ex0 Z h xa1 ∧ Safe Z EL0 vm h xa1 ∧ h0.size ≤ xa1 ∧ h.size > xa1
theorem rm_au70 (G : GL l Z a0 zc fmt kpp) (F0 : ex3 Z h0 pa1) (F1 : fd6 Z h0 pa1 (.int 0)) (F2 : fd7 Z h0 pa1 (.int 0)) (F3 : fd8 Z h0 pa1 (.int 0)) (F4 : fd5 Z h0 pa1 (.ref pa3)) (F5 : ex1 Z h0 pa2) (F6 : fd1 Z h0 pa2 (.int 1)) (F7 : fd0 Z h0 pa2 (.ref pa4)) (F8 : av0 Z h0 pa3 pk1 16 ps_pa3) (F9 : av0 Z h0 pa4 pk2 4 [.int pi1, .int pi2, .int pi3, .int pi4]) (ne : NE pa1 pa2 ∧ NE pa1 pa3 ∧ NE pa1 pa4 ∧ n0 ≤ pa1) : M16 l Z 7 1 32 102 #[.ref pa1, i0, .ref pa2] h0 n0 [pa1] [] (Q36 Z pa1 pi1 pi2 pi3 pi4 h0) := by
  refine mi B16 ef10 (hEW G) fun s X0 hsf0 n0le => ?_
  have := F0.l
  have := F5.l
  have := F8.l
  have := F9.l
  refine oA 1 X0 d16_0 rfl rfl <| oA 2 X0 d16_1 rfl rfl <| mV 5 0 X0 F0 (rm_au68 G F0 F1 F2 F3 F4 F5 F6 F8 (by omega)) (u11 G) all0 d16_2 rfl rfl rfl lr (by decide) (aI (by omega) (by simp) all0) ?_
  rintro _ _ _ _ X1 ⟨xa1_2, xk1_3, rfl, q4, q5, q6, q7, q8, q9, q10, q11, _⟩ K1 _ _
  refine oA 6 X1 d16_5 rfl rfl <| oA 7 X1 d16_6 rfl rfl <| oF 10 X1 (w54 G) Via.refl q8 d16_7 rfl ?_
  intro _ X14
  refine oI 11 X14 d16_10 rfl rfl <| oA 12 X14 d16_11 rfl rfl <| oF 15 X14 (w56 G) Via.refl q5 d16_12 rfl ?_
  intro _ X16
  have f17 := F5.keep K1
  have f18 := F6.k1 K1 (by omega)
  have f19 := F7.k1 K1 (by omega)
  have f20 := F9.k1 K1 (by omega)
  refine mV 18 0 X16 f17 (rm_au69 G f17 f18 f19 q9 q10 f20 (by omega)) (u12 G) (sS (by omega) q11 all0) d16_15 rfl rfl rfl lr (by decide) (aR (by omega) all0) ?_
  rintro _ _ _ _ X21 ⟨rfl, q22, q23⟩ K21 _ C21
  have f24 := q4.keep K21
  have f25 := q5.k1 K21 (by omega)
  have f26 := q6.k1 K21 (by omega)
  have f27 := q7.k1 K21 (by omega)
  have f28 := q8.k1 K21 (by omega)
  have f29 := C21.safe (own_lt (by omega)) q11
  exact oz X21 d16_18 rfl (by decide) (by decide) (fun _ CC => ⟨xa1_2, xk1_3, rfl, f24, f25, f26, f27, f28, q22, q23, (CC.safe (own_lt (by omega)) f29), by omega⟩)
def Q37 (Z : State) (b1 : Addr) (b2 b3 b4 b5 : Int32) (h0 : Heap) (v : Option Value) (h : Heap) (vm : Vm) : Prop := ∃ (xa1 : Addr) (xk1 : ClassId), v = some (.ref b1) ∧ ex3 Z h b1 ∧ fd6 Z h b1 (.int 1) ∧ fd7 Z h b1 (.int 2) ∧ fd8 Z h b1 (.int 0) ∧ fd5 Z h b1 (.ref xa1) ∧ av0 Z h xa1 xk1 32 [.int b2, .int b3, .int b4, .int b5, i0, i0, i0, i0, i0, i0, i0, i0, i0, i0, i0, i0, i0, i0, i0, i0, i0, i0, i0, i0, i0, i0, i0, i0, i0, i0, i0, i0] ∧ ex0 Z h xa1 ∧ Safe Z EL0 vm h xa1 ∧ h0.size ≤ xa1 ∧ h.size > xa1
theorem rm_au71 (G : GL l Z a0 zc fmt kpp) (F0 : ex3 Z h0 pa1) (F1 : fd6 Z h0 pa1 (.int 0)) (F2 : fd7 Z h0 pa1 (.int 0)) (F3 : fd8 Z h0 pa1 (.int 0)) (F4 : fd5 Z h0 pa1 (.ref pa3)) (F5 : ex1 Z h0 pa2) (F6 : fd1 Z h0 pa2 (.int 1)) (F7 : fd0 Z h0 pa2 (.ref pa4)) (F8 : av0 Z h0 pa3 pk1 16 ps_pa3) (F9 : av0 Z h0 pa4 pk2 4 [.int pi1, .int pi2, .int pi3, .int pi4]) (ne : NE pa1 pa2 ∧ NE pa1 pa3 ∧ NE pa1 pa4 ∧ n0 ≤ pa1) : M12 l Z 8 1 32 116 #[.ref pa1, .ref pa2] h0 n0 [pa1] [] (Q37 Z pa1 pi1 pi2 pi3 pi4 h0) := by
  refine mi B12 ef8 (hEW G) fun s X0 hsf0 n0le => ?_
  have := F0.l
  have := F5.l
  have := F8.l
  have := F9.l
  refine oA 1 X0 d12_0 rfl rfl <| ifnonnullYesJ 9 X0 d12_1 (by decide) <| oA 10 X0 d12_9 rfl rfl <| mV 13 0 X0 F5 (rm_au58 G F5 F6 F7 F9) (u8 G) all0 d12_10 rfl rfl rfl lr (by decide) all0 ?_
  rintro _ _ _ _ X1 rfl K1 _ _
  refine oT 14 (l' := #[rr pa1, rr pa2, ii 2]) X1 d12_13 rfl rfl <| oA 15 X1 d12_14 rfl rfl <| oA 16 X1 d12_15 rfl rfl ?_
  have f2 := F2.k0 K1
  refine oF 19 X1 (w78 G) Via.refl f2 d12_16 rfl ?_
  intro _ X4
  refine oI 20 X4 d12_19 rfl rfl <| o_iadd 21 (v := 2) X4 d12_20 rfl (by decide) ?_
  have f5 := F1.k0 K1
  have f6 := F4.k0 K1
  have f7 := F8.k0 K1
  have f8 := F0.keep K1
  refine mV 24 0 X4 f8 (rm_au11 G f5 f6 f7 (by decide)) (u9 G) all0 d12_21 rfl rfl rfl lr (by decide) all0 ?_
  rintro _ _ _ _ X9 rfl K9 _ _
  refine oA 25 X9 d12_24 rfl rfl <| oA 26 X9 d12_25 rfl rfl ?_
  have f10 := f2.k0 K9
  refine oF 29 X9 (w78 G) Via.refl f10 d12_26 rfl ?_
  intro _ X12
  refine oA 30 X12 d12_29 rfl rfl ?_
  have f13 := f8.keep K9
  have f14 := f5.k0 K9
  have f15 := (F3.k0 K1).k0 K9
  have f16 := f6.k0 K9
  have f17 := (F5.keep K1).keep K9
  have f18 := (F6.k0 K1).k0 K9
  have f19 := (F7.k0 K1).k0 K9
  have f20 := f7.k0 K9
  have f21 := (F9.k0 K1).k0 K9
  refine mV 33 0 X12 f13 (rm_au70 G f13 f14 f10 f15 f16 f17 f18 f19 f20 f21 (by omega)) (u13 G) all0 d12_30 rfl rfl rfl lr (by decide) (aI (by omega) (by simp) all0) ?_
  rintro _ _ _ _ X22 ⟨xa1_23, xk1_24, rfl, q25, q26, q27, q28, q29, q30, q31, q32, _⟩ _ _ _
  refine oA 34 X22 d12_33 rfl rfl <| oD 35 X22 d12_34 rfl rfl <| oF 38 X22 (w78 G) Via.refl q27 d12_35 rfl ?_
  intro _ X35
  refine oI 39 X35 d12_38 rfl rfl <| o_iadd 40 (v := 2) X35 d12_39 rfl (by decide) <| oP 43 (v' := (.int 2)) X35 (w78 G) Via.refl q27 q25 (Or.inl (w79 G)) (w41 G) fd_4 rfl rfl d12_40 rfl (by omega) (Or.inl (by simp)) (sx X35 q25 nc1) ?_
  intro _ _ X36 W36 C36
  have := W36.size
  have f37 := q27.same W36
  refine oA 44 X36 d12_43 rfl rfl ?_
  have f38 := q25.wr W36
  have f39 := q26.other W36 (Or.inr (sn8 G))
  have f40 := q28.other W36 (Or.inr (sn9 G))
  have f41 := q29.other W36 (Or.inr (sn10 G))
  have f42 := q30.oth W36 (by omega)
  have f43 := q31.wr W36
  have f44 := C36.safe (own_lt (by omega)) q32
  exact oR X36 d12_44 rfl rfl rfl (by decide) (by decide) (fun _ CC => ⟨xa1_23, xk1_24, rfl, f38, f39, f37, f40, f41, f42, f43, (CC.safe (own_lt (by omega)) f44), by omega⟩)
theorem rm_au72 (G : GL l Z a0 zc fmt kpp) (F0 : ex3 Z h0 pa1) (F1 : fd6 Z h0 pa1 (.int 0)) (F2 : fd7 Z h0 pa1 (.int 0)) (F3 : fd8 Z h0 pa1 (.int 0)) (F4 : fd5 Z h0 pa1 (.ref pa3)) (F5 : ex1 Z h0 pa2) (F6 : fd1 Z h0 pa2 (.int 1)) (F7 : fd0 Z h0 pa2 (.ref pa4)) (F8 : av0 Z h0 pa3 pk1 16 ps_pa3) (F9 : av0 Z h0 pa4 pk2 4 [.int pi1, .int pi2, .int pi3, .int pi4]) (ne : NE pa1 pa2 ∧ NE pa1 pa3 ∧ NE pa1 pa4 ∧ n0 ≤ pa1) : M11 l Z 9 1 32 130 #[.ref pa1, .ref pa2] h0 n0 [pa1] [] (Q37 Z pa1 pi1 pi2 pi3 pi4 h0) := by
  refine mi B11 ef3 (hEW G) fun s X0 hsf0 n0le => ?_
  have := F0.l
  have := F5.l
  have := F8.l
  have := F9.l
  refine oA 1 X0 d11_0 rfl rfl <| oA 2 X0 d11_1 rfl rfl <| mU 5 0 X0 F0 (rm_au71 G F0 F1 F2 F3 F4 F5 F6 F7 F8 F9 (by omega)) (u14 G) all0 d11_2 rfl rfl rfl lr (by decide) (aI (by omega) (by simp) all0) ?_
  rintro _ _ _ _ X1 ⟨xa1_2, xk1_3, rfl, q4, q5, q6, q7, q8, q9, q10, q11, _⟩ _ _ _
  refine o_pop 6 X1 d11_5 rfl rfl <| oA 7 X1 d11_6 rfl rfl ?_
  exact oR X1 d11_7 rfl rfl rfl (by decide) (by decide) (fun _ CC => ⟨xa1_2, xk1_3, rfl, q4, q5, q6, q7, q8, q9, q10, (CC.safe (own_lt (by omega)) q11), by omega⟩)
theorem rm_au73 (G : GL l Z a0 zc fmt kpp) (F0 : fd6 Z h0 pa1 (.int pi1)) (pc_0 : ¬ pi1 = (0 : Int32)) : M25 l Z 0 0 0 0 #[.ref pa1] h0 n0 [] [] (Q5 Z  h0) := by
  refine mi B25 ef7 (hEW G) fun s X0 hsf0 n0le => ?_
  have := F0.l
  refine oG 3 X0 (w53 G) Via.refl ((sg5 G).ext X0.old.2) d25_0 rfl ?_
  intro _ X2
  refine on 6 X2 d25_3 rfl ((if0 _ _).trans (feq (hzc G)).1) <| oA 7 X2 d25_6 rfl rfl <| oF 10 X2 (w56 G) Via.refl F0 d25_7 rfl ?_
  intro _ X4
  refine oy 17 X4 d25_10 (by decide) ((if0 _ _).trans (feq pc_0).2) <| oc 18 (v := 0) X4 d25_17 rfl (by decide) ?_
  exact o_nret (y := (0 : Int32)) (t := .boolean) X4 d25_18 rfl (by decide) (by simp) (by decide) (by decide) (fun _ CC => rfl)
theorem rm_au74 (G : GL l Z a0 zc fmt kpp) (F0 : ex3 Z h0 pa1) (F1 : fd6 Z h0 pa1 (.int pi102)) (pc_0 : ¬ pi102 = (0 : Int32)) : M39 l Z 1 0 0 12 #[.ref pa1] h0 n0 [] [] (Q8 Z  h0) := by
  refine mi B39 ef17 (hEW G) fun s X0 hsf0 n0le => ?_
  have := F0.l
  refine oA 1 X0 d39_0 rfl rfl <| mV 4 0 X0 F0 (rm_au73 G F1 pc_0) (u39 G) all0 d39_1 rfl rfl rfl lr (by decide) all0 ?_
  rintro _ _ _ _ X1 rfl _ _ _
  refine on 7 X1 d39_4 rfl ((if0 _ _).trans (teq (by decide)).2) ?_
  exact oz X1 d39_7 rfl (by decide) (by decide) (fun _ CC => rfl)
theorem rm_au75 (G : GL l Z a0 zc fmt kpp) (F0 : ex3 Z h0 pa1) (F1 : fd6 Z h0 pa1 (.int 1)) (F2 : ex1 Z h0 pa2) (F3 : fd1 Z h0 pa2 (.int 0)) : M17 l Z 2 0 0 25 #[.ref pa1, .ref pa2] h0 n0 [] [] (Q8 Z  h0) := by
  refine mi B17 ef3 (hEW G) fun s X0 hsf0 n0le => ?_
  have := F0.l
  have := F2.l
  refine oG 3 X0 (w53 G) Via.refl ((sg5 G).ext X0.old.2) d17_0 rfl ?_
  intro _ X2
  refine on 6 X2 d17_3 rfl ((if0 _ _).trans (feq (hzc G)).1) <| oA 7 X2 d17_6 rfl rfl <| oF 10 X2 (w56 G) Via.refl F1 d17_7 rfl ?_
  intro _ X4
  refine oA 11 X4 d17_10 rfl rfl <| mV 14 1 X4 F2 (rm_au9 G F3) (u10 G) all0 d17_11 rfl rfl rfl lr (by decide) all0 ?_
  rintro _ _ _ _ X5 rfl K5 _ _
  refine oN 17 X5 d17_14 rfl (feq (by decide)).1 <| oA 18 X5 d17_17 rfl rfl ?_
  have f6 := F0.keep K5
  have f7 := F1.k0 K5
  refine mV 21 0 X5 f6 (rm_au74 G f6 f7 (by decide)) (u47 G) all0 d17_18 rfl rfl rfl lr (by decide) all0 ?_
  rintro _ _ _ _ X8 rfl _ _ _
  exact oz X8 d17_21 rfl (by decide) (by decide) (fun _ CC => rfl)
def Q38 (Z : State) (b1 : Addr) (b2 : ClassId) (b3 b4 b5 b6 : Int32) (h0 : Heap) (v : Option Value) (h : Heap) (vm : Vm) : Prop := v = none ∧ av0 Z h b1 b2 32 [.int b3, .int b4, .int b5, .int b6, .int 47, i0, .int 42, i0, i0, i0, i0, i0, i0, i0, i0, i0, i0, i0, i0, i0, i0, i0, i0, i0, i0, i0, i0, i0, i0, i0, i0, i0] ∧ ex0 Z h b1
theorem rm_au76 (G : GL l Z a0 zc fmt kpp) (F0 : av0 Z h0 pa1 pk1 2 [.int 47, .int 42]) (F1 : av0 Z h0 pa2 pk2 32 [.int pi1, .int pi2, .int pi3, .int pi4, i0, i0, i0, i0, i0, i0, i0, i0, i0, i0, i0, i0, i0, i0, i0, i0, i0, i0, i0, i0, i0, i0, i0, i0, i0, i0, i0, i0]) (F2 : ex0 Z h0 pa2) (ne : NE pa1 pa2 ∧ n0 ≤ pa2) : M41 l Z 3 0 0 43 #[.ref pa1, i0, .ref pa2, .int 2, .int 2] h0 n0 [pa2] [pa2] (Q38 Z pa2 pk2 pi1 pi2 pi3 pi4 h0) := by
  refine mi B41 ef19 (hEW G) fun s X0 hsf0 n0le => ?_
  have := F0.l
  have := F1.l
  have sf_pa2 := hsf0 pa2 (by simp)
  refine oI 1 X0 d41_0 rfl rfl <| oi 3 X0 d41_1 rfl rfl <| oA 4 X0 d41_3 rfl rfl <| mS 7 0 X0 (rm_au64 G F1 (by decide) (by decide)) (u44 G) all0 d41_4 rfl rfl rfl lr (by decide) all0 ?_
  rintro _ _ _ _ X1 rfl K1 _ C1
  refine oc 8 (v := 0) X1 d41_7 rfl (by decide) <| oS 10 (l' := #[rr pa1, ii 0, rr pa2, ii 2, ii 2, ii 0]) X1 d41_8 rfl rfl <| oi 12 X1 d41_10 rfl rfl <| oi 14 X1 d41_12 rfl rfl <| oN 17 X1 d41_14 rfl (tlt (by decide)).2.1 <| oA 18 X1 d41_17 rfl rfl <| oI 19 X1 d41_18 rfl rfl <| oJ 22 3 #[rr pa1, ii 0, rr pa2, ii 3, ii 2, ii 0] X1 d41_19 rfl rfl (by decide) rfl <| oA 23 X1 d41_22 rfl rfl <| oI 24 X1 d41_23 rfl rfl <| oJ 27 1 #[rr pa1, ii 1, rr pa2, ii 3, ii 2, ii 0] X1 d41_24 rfl rfl (by decide) rfl ?_
  have f2 := F0.k0 K1
  refine oB 28 (v := (.int 47)) X1 f2 ⟨by decide, by decide⟩ rfl d41_27 rfl <| o_sipush 31 (v := 255) X1 d41_28 rfl (by decide) <| o_iand 32 (v := 47) X1 d41_31 rfl (by decide) ?_
  have f3 := F2.keep K1
  have f4 := F1.k0 K1
  have f5 := C1.safe (own_lt (by omega)) sf_pa2
  refine mS 35 0 X1 (rm_putChar G f3 f4 ⟨by decide, by decide⟩ ⟨by decide, by decide⟩ (Nat.le_of_ble_eq_true rfl) (Nat.le_of_ble_eq_true rfl) (by omega)) (u36 G) (sS (by omega) f5 all0) d41_32 rfl rfl rfl lr (by decide) (aI (by omega) (by simp) all0) ?_
  rintro _ _ _ _ X6 ⟨rfl, q7, q8⟩ K6 _ C6
  have V9 := q8.as [.int pi1, .int pi2, .int pi3, .int pi4, .int 47, i0, i0, i0, i0, i0, i0, i0, i0, i0, i0, i0, i0, i0, i0, i0, i0, i0, i0, i0, i0, i0, i0, i0, i0, i0, i0, i0] rfl
  refine oJ 38 1 #[rr pa1, ii 1, rr pa2, ii 3, ii 2, ii 1] X6 d41_35 rfl rfl (by decide) rfl <| og 10 X6 d41_38 (by decide) <| oi 12 X6 d41_10 rfl rfl <| oi 14 X6 d41_12 rfl rfl <| oN 17 X6 d41_14 rfl (tlt (by decide)).2.1 <| oA 18 X6 d41_17 rfl rfl <| oI 19 X6 d41_18 rfl rfl <| oJ 22 4 #[rr pa1, ii 1, rr pa2, ii 4, ii 2, ii 1] X6 d41_19 rfl rfl (by decide) rfl <| oA 23 X6 d41_22 rfl rfl <| oI 24 X6 d41_23 rfl rfl <| oJ 27 2 #[rr pa1, ii 2, rr pa2, ii 4, ii 2, ii 1] X6 d41_24 rfl rfl (by decide) rfl ?_
  have f10 := f2.k1 K6 (by omega)
  refine oB 28 (v := (.int 42)) X6 f10 ⟨by decide, by decide⟩ rfl d41_27 rfl <| o_sipush 31 (v := 255) X6 d41_28 rfl (by decide) <| o_iand 32 (v := 42) X6 d41_31 rfl (by decide) ?_
  have f11 := C6.safe (own_lt (by omega)) f5
  refine mS 35 0 X6 (rm_putChar G q7 V9 ⟨by decide, by decide⟩ ⟨by decide, by decide⟩ (Nat.le_of_ble_eq_true rfl) (Nat.le_of_ble_eq_true rfl) (by omega)) (u36 G) (sS (by omega) f11 all0) d41_32 rfl rfl rfl lr (by decide) (aI (by omega) (by simp) all0) ?_
  rintro _ _ _ _ X12 ⟨rfl, q13, q14⟩ _ _ _
  have V15 := q14.as [.int pi1, .int pi2, .int pi3, .int pi4, .int 47, i0, .int 42, i0, i0, i0, i0, i0, i0, i0, i0, i0, i0, i0, i0, i0, i0, i0, i0, i0, i0, i0, i0, i0, i0, i0, i0, i0] rfl
  refine oJ 38 2 #[rr pa1, ii 2, rr pa2, ii 4, ii 2, ii 2] X12 d41_35 rfl rfl (by decide) rfl <| og 10 X12 d41_38 (by decide) <| oi 12 X12 d41_10 rfl rfl <| oi 14 X12 d41_12 rfl rfl <| oY 41 X12 d41_14 (by decide) (flt (by decide)).2.1 ?_
  exact oz X12 d41_41 rfl (by decide) (by decide) (fun _ CC => ⟨rfl, V15, q13⟩)
theorem rm_au77 (G : GL l Z a0 zc fmt kpp) (F0 : av0 Z h0 pa1 pk1 2 [.int 47, .int 42]) (F1 : av0 Z h0 pa2 pk2 32 [.int pi1, .int pi2, .int pi3, .int pi4, i0, i0, i0, i0, i0, i0, i0, i0, i0, i0, i0, i0, i0, i0, i0, i0, i0, i0, i0, i0, i0, i0, i0, i0, i0, i0, i0, i0]) (F2 : ex0 Z h0 pa2) (ne : NE pa1 pa2 ∧ n0 ≤ pa2) : M40 l Z 4 0 0 60 #[.ref pa1, i0, .ref pa2, .int 2, .int 2] h0 n0 [pa2] [pa2] (Q38 Z pa2 pk2 pi1 pi2 pi3 pi4 h0) := by
  refine mi B40 ef18 (hEW G) fun s X0 hsf0 n0le => ?_
  have := F0.l
  have := F1.l
  have sf_pa2 := hsf0 pa2 (by simp)
  refine oA 1 X0 d40_0 rfl rfl <| oI 2 X0 d40_1 rfl rfl <| oA 3 X0 d40_2 rfl rfl <| oI 4 X0 d40_3 rfl rfl <| oi 6 X0 d40_4 rfl rfl <| mS 9 0 X0 (rm_au76 G F0 F1 F2 (by omega)) (u45 G) (sS (by omega) sf_pa2 all0) d40_6 rfl rfl rfl lr (by decide) (aI (by omega) (by simp) all0) ?_
  rintro _ _ _ _ X1 ⟨rfl, q2, q3⟩ _ _ _
  exact oz X1 d40_9 rfl (by decide) (by decide) (fun _ CC => ⟨rfl, q2, q3⟩)
theorem rm_au78 (G : GL l Z a0 zc fmt kpp) (F0 : ex1 Z h0 pa1) (F1 : fd1 Z h0 pa1 (.int 0)) (F2 : fd0 Z h0 pa1 (.ref pa3)) (F3 : av0 Z h0 pa2 pk1 32 [.int pi1, .int pi2, .int pi3, .int pi4, i0, i0, i0, i0, i0, i0, i0, i0, i0, i0, i0, i0, i0, i0, i0, i0, i0, i0, i0, i0, i0, i0, i0, i0, i0, i0, i0, i0]) (F4 : ex0 Z h0 pa2) (F5 : av0 Z h0 pa3 pk2 2 [.int 47, .int 42]) (ne : NE pa1 pa2 ∧ NE pa2 pa3 ∧ n0 ≤ pa2) : M18 l Z 5 0 0 76 #[.ref pa1, .ref pa2, .int 2, .int 1] h0 n0 [pa2] [pa2] (Q38 Z pa2 pk1 pi1 pi2 pi3 pi4 h0) := by
  refine mi B18 ef11 (hEW G) fun s X0 hsf0 n0le => ?_
  have := F0.l
  have := F3.l
  have := F5.l
  have sf_pa2 := hsf0 pa2 (by simp)
  refine oA 1 X0 d18_0 rfl rfl <| mV 4 0 X0 F0 (rm_au9 G F1) (u7 G) all0 d18_1 rfl rfl rfl lr (by decide) all0 ?_
  rintro _ _ _ _ X1 rfl K1 _ C1
  refine oI 5 X1 d18_4 rfl rfl <| oY 28 X1 d18_5 (by decide) (feq (by decide)).2 <| oA 29 X1 d18_28 rfl rfl ?_
  have f2 := F2.k0 K1
  refine oF 32 X1 (w21 G) Via.refl f2 d18_29 rfl ?_
  intro _ X4
  refine oc 33 (v := 0) X4 d18_32 rfl (by decide) <| oA 34 X4 d18_33 rfl rfl <| oI 35 X4 d18_34 rfl rfl <| oA 36 X4 d18_35 rfl rfl <| oF 39 X4 (w21 G) Via.refl f2 d18_36 rfl ?_
  intro _ X6
  have f7 := F5.k0 K1
  refine oL 40 X6 f7 d18_39 rfl ?_
  have f8 := F3.k0 K1
  have f9 := F4.keep K1
  have f10 := C1.safe (own_lt (by omega)) sf_pa2
  refine mS 43 0 X6 (rm_au77 G f7 f8 f9 (by omega)) (u48 G) (sS (by omega) f10 all0) d18_40 rfl rfl rfl lr (by decide) (aI (by omega) (by simp) all0) ?_
  rintro _ _ _ _ X11 ⟨rfl, q12, q13⟩ _ _ _
  exact oz X11 d18_43 rfl (by decide) (by decide) (fun _ CC => ⟨rfl, q12, q13⟩)
theorem rm_au79 (G : GL l Z a0 zc fmt kpp) (F0 : ex3 Z h0 pa1) (F1 : fd6 Z h0 pa1 (.int 1)) (F2 : fd5 Z h0 pa1 (.ref pa3)) (F3 : ex1 Z h0 pa2) (F4 : fd1 Z h0 pa2 (.int 0)) (F5 : fd0 Z h0 pa2 (.ref pa4)) (F6 : av0 Z h0 pa3 pk1 32 [.int pi1, .int pi2, .int pi3, .int pi4, i0, i0, i0, i0, i0, i0, i0, i0, i0, i0, i0, i0, i0, i0, i0, i0, i0, i0, i0, i0, i0, i0, i0, i0, i0, i0, i0, i0]) (F7 : ex0 Z h0 pa3) (F8 : av0 Z h0 pa4 pk2 2 [.int 47, .int 42]) (ne : NE pa1 pa3 ∧ NE pa2 pa3 ∧ NE pa3 pa4 ∧ n0 ≤ pa3) : M16 l Z 6 0 0 91 #[.ref pa1, .int 2, .ref pa2] h0 n0 [pa3] [pa3] (Q38 Z pa3 pk1 pi1 pi2 pi3 pi4 h0) := by
  refine mi B16 ef10 (hEW G) fun s X0 hsf0 n0le => ?_
  have := F0.l
  have := F3.l
  have := F6.l
  have := F8.l
  have sf_pa3 := hsf0 pa3 (by simp)
  refine oA 1 X0 d16_0 rfl rfl <| oA 2 X0 d16_1 rfl rfl <| mV 5 0 X0 F0 (rm_au75 G F0 F1 F3 F4) (u11 G) all0 d16_2 rfl rfl rfl lr (by decide) all0 ?_
  rintro _ _ _ _ X1 rfl K1 _ C1
  refine oA 6 X1 d16_5 rfl rfl <| oA 7 X1 d16_6 rfl rfl ?_
  have f2 := F2.k0 K1
  refine oF 10 X1 (w54 G) Via.refl f2 d16_7 rfl ?_
  intro _ X4
  refine oI 11 X4 d16_10 rfl rfl <| oA 12 X4 d16_11 rfl rfl ?_
  have f5 := F1.k0 K1
  refine oF 15 X4 (w56 G) Via.refl f5 d16_12 rfl ?_
  intro _ X7
  have f8 := F3.keep K1
  have f9 := F4.k0 K1
  have f10 := F5.k0 K1
  have f11 := F6.k0 K1
  have f12 := F7.keep K1
  have f13 := F8.k0 K1
  have f14 := C1.safe (own_lt (by omega)) sf_pa3
  refine mV 18 0 X7 f8 (rm_au78 G f8 f9 f10 f11 f12 f13 (by omega)) (u12 G) (sS (by omega) f14 all0) d16_15 rfl rfl rfl lr (by decide) (aI (by omega) (by simp) all0) ?_
  rintro _ _ _ _ X15 ⟨rfl, q16, q17⟩ _ _ _
  exact oz X15 d16_18 rfl (by decide) (by decide) (fun _ CC => ⟨rfl, q16, q17⟩)
def Q39 (Z : State) (b1 b2 : Addr) (b3 : ClassId) (b4 b5 b6 b7 : Int32) (h0 : Heap) (v : Option Value) (h : Heap) (vm : Vm) : Prop := v = some (.ref b1) ∧ ex3 Z h b1 ∧ fd6 Z h b1 (.int 1) ∧ fd7 Z h b1 (.int 4) ∧ fd8 Z h b1 (.int 0) ∧ fd5 Z h b1 (.ref b2) ∧ av0 Z h b2 b3 32 [.int b4, .int b5, .int b6, .int b7, .int 47, i0, .int 42, i0, i0, i0, i0, i0, i0, i0, i0, i0, i0, i0, i0, i0, i0, i0, i0, i0, i0, i0, i0, i0, i0, i0, i0, i0] ∧ ex0 Z h b2
theorem rm_au80 (G : GL l Z a0 zc fmt kpp) (F0 : ex3 Z h0 pa1) (F1 : fd6 Z h0 pa1 (.int 1)) (F2 : fd7 Z h0 pa1 (.int 2)) (F3 : fd8 Z h0 pa1 (.int 0)) (F4 : fd5 Z h0 pa1 (.ref pa3)) (F5 : ex1 Z h0 pa2) (F6 : fd1 Z h0 pa2 (.int 0)) (F7 : fd0 Z h0 pa2 (.ref pa4)) (F8 : av0 Z h0 pa3 pk1 32 [.int pi1, .int pi2, .int pi3, .int pi4, i0, i0, i0, i0, i0, i0, i0, i0, i0, i0, i0, i0, i0, i0, i0, i0, i0, i0, i0, i0, i0, i0, i0, i0, i0, i0, i0, i0]) (F9 : ex0 Z h0 pa3) (F10 : av0 Z h0 pa4 pk2 2 [.int 47, .int 42]) (ne : NE pa1 pa2 ∧ NE pa1 pa3 ∧ NE pa1 pa4 ∧ NE pa2 pa3 ∧ NE pa3 pa4 ∧ n0 ≤ pa1 ∧ n0 ≤ pa3) : M12 l Z 7 0 0 105 #[.ref pa1, .ref pa2] h0 n0 [pa1, pa3] [pa3] (Q39 Z pa1 pa3 pk1 pi1 pi2 pi3 pi4 h0) := by
  refine mi B12 ef8 (hEW G) fun s X0 hsf0 n0le => ?_
  have := F0.l
  have := F5.l
  have := F8.l
  have := F10.l
  have sf_pa3 := hsf0 pa3 (by simp)
  refine oA 1 X0 d12_0 rfl rfl <| ifnonnullYesJ 9 X0 d12_1 (by decide) <| oA 10 X0 d12_9 rfl rfl <| mV 13 0 X0 F5 (rm_au17 G F5 F6 F7 F10) (u8 G) all0 d12_10 rfl rfl rfl lr (by decide) all0 ?_
  rintro _ _ _ _ X1 rfl K1 _ C1
  refine oT 14 (l' := #[rr pa1, rr pa2, ii 2]) X1 d12_13 rfl rfl <| oA 15 X1 d12_14 rfl rfl <| oA 16 X1 d12_15 rfl rfl ?_
  have f2 := F2.k0 K1
  refine oF 19 X1 (w78 G) Via.refl f2 d12_16 rfl ?_
  intro _ X4
  refine oI 20 X4 d12_19 rfl rfl <| o_iadd 21 (v := 4) X4 d12_20 rfl (by decide) ?_
  have f5 := F1.k0 K1
  have f6 := F4.k0 K1
  have f7 := F8.k0 K1
  have f8 := F0.keep K1
  refine mV 24 0 X4 f8 (rm_au11 G f5 f6 f7 (by decide)) (u9 G) all0 d12_21 rfl rfl rfl lr (by decide) all0 ?_
  rintro _ _ _ _ X9 rfl K9 _ C9
  refine oA 25 X9 d12_24 rfl rfl <| oA 26 X9 d12_25 rfl rfl ?_
  have f10 := f2.k0 K9
  refine oF 29 X9 (w78 G) Via.refl f10 d12_26 rfl ?_
  intro _ X12
  refine oA 30 X12 d12_29 rfl rfl ?_
  have f13 := f8.keep K9
  have f14 := f5.k0 K9
  have f15 := f6.k0 K9
  have f16 := (F5.keep K1).keep K9
  have f17 := (F6.k0 K1).k0 K9
  have f18 := (F7.k0 K1).k0 K9
  have f19 := f7.k0 K9
  have f20 := (F9.keep K1).keep K9
  have f21 := (F10.k0 K1).k0 K9
  have f22 := C9.safe (own_lt (by omega)) (C1.safe (own_lt (by omega)) sf_pa3)
  refine mV 33 0 X12 f13 (rm_au79 G f13 f14 f15 f16 f17 f18 f19 f20 f21 (by omega)) (u13 G) (sS (by omega) f22 all0) d12_30 rfl rfl rfl lr (by decide) (aI (by omega) (by simp) all0) ?_
  rintro _ _ _ _ X23 ⟨rfl, q24, q25⟩ K23 _ _
  refine oA 34 X23 d12_33 rfl rfl <| oD 35 X23 d12_34 rfl rfl ?_
  have f26 := f10.k1 K23 (by omega)
  refine oF 38 X23 (w78 G) Via.refl f26 d12_35 rfl ?_
  intro _ X28
  refine oI 39 X28 d12_38 rfl rfl <| o_iadd 40 (v := 4) X28 d12_39 rfl (by decide) ?_
  have f29 := f13.keep K23
  refine oP 43 (v' := (.int 4)) X28 (w78 G) Via.refl f26 f29 (Or.inl (w79 G)) (w41 G) fd_4 rfl rfl d12_40 rfl (by omega) (Or.inl (by simp)) (sx X28 f29 nc1) ?_
  intro _ _ X30 W30 _
  have := W30.size
  have f31 := f26.same W30
  refine oA 44 X30 d12_43 rfl rfl ?_
  have f32 := f29.wr W30
  have f33 := (f14.k1 K23 (by omega)).other W30 (Or.inr (sn8 G))
  have f34 := (((F3.k0 K1).k0 K9).k1 K23 (by omega)).other W30 (Or.inr (sn9 G))
  have f35 := (f15.k1 K23 (by omega)).other W30 (Or.inr (sn10 G))
  have f36 := q24.oth W30 (by omega)
  have f37 := q25.wr W30
  exact oR X30 d12_44 rfl rfl rfl (by decide) (by decide) (fun _ CC => ⟨rfl, f32, f33, f31, f34, f35, f36, f37⟩)
theorem rm_au81 (G : GL l Z a0 zc fmt kpp) (F0 : ex3 Z h0 pa1) (F1 : fd6 Z h0 pa1 (.int 1)) (F2 : fd7 Z h0 pa1 (.int 2)) (F3 : fd8 Z h0 pa1 (.int 0)) (F4 : fd5 Z h0 pa1 (.ref pa3)) (F5 : ex1 Z h0 pa2) (F6 : fd1 Z h0 pa2 (.int 0)) (F7 : fd0 Z h0 pa2 (.ref pa4)) (F8 : av0 Z h0 pa3 pk1 32 [.int pi1, .int pi2, .int pi3, .int pi4, i0, i0, i0, i0, i0, i0, i0, i0, i0, i0, i0, i0, i0, i0, i0, i0, i0, i0, i0, i0, i0, i0, i0, i0, i0, i0, i0, i0]) (F9 : ex0 Z h0 pa3) (F10 : av0 Z h0 pa4 pk2 2 [.int 47, .int 42]) (ne : NE pa1 pa2 ∧ NE pa1 pa3 ∧ NE pa1 pa4 ∧ NE pa2 pa3 ∧ NE pa3 pa4 ∧ n0 ≤ pa1 ∧ n0 ≤ pa3) : M11 l Z 8 0 0 119 #[.ref pa1, .ref pa2] h0 n0 [pa1, pa3] [pa3] (Q39 Z pa1 pa3 pk1 pi1 pi2 pi3 pi4 h0) := by
  refine mi B11 ef3 (hEW G) fun s X0 hsf0 n0le => ?_
  have := F0.l
  have := F5.l
  have := F8.l
  have := F10.l
  have sf_pa3 := hsf0 pa3 (by simp)
  refine oA 1 X0 d11_0 rfl rfl <| oA 2 X0 d11_1 rfl rfl <| mU 5 0 X0 F0 (rm_au80 G F0 F1 F2 F3 F4 F5 F6 F7 F8 F9 F10 (by omega)) (u14 G) (sS (by omega) sf_pa3 all0) d11_2 rfl rfl rfl lr (by decide) (aI (by omega) (by simp) (aI (by omega) (by simp) all0)) ?_
  rintro _ _ _ _ X1 ⟨rfl, q2, q3, q4, q5, q6, q7, q8⟩ _ _ _
  refine o_pop 6 X1 d11_5 rfl rfl <| oA 7 X1 d11_6 rfl rfl ?_
  exact oR X1 d11_7 rfl rfl rfl (by decide) (by decide) (fun _ CC => ⟨rfl, q2, q3, q4, q5, q6, q7, q8⟩)
def Q40 (Z : State) (b1 b2 b3 b4 : Int32) (h0 : Heap) (v : Option Value) (h : Heap) (vm : Vm) : Prop := ∃ (xa1 : Addr) (xk1 : ClassId), v = some (.ref xa1) ∧ av0 Z h xa1 xk1 8 [.int b1, .int b2, .int b3, .int b4, .int 47, i0, .int 42, i0] ∧ ex0 Z h xa1 ∧ Safe Z EL0 vm h xa1 ∧ h0.size ≤ xa1 ∧ h.size > xa1
theorem rm_au82 (G : GL l Z a0 zc fmt kpp) (F0 : av0 Z h0 pa1 pk1 32 [.int pi1, .int pi2, .int pi3, .int pi4, .int 47, i0, .int 42, i0, i0, i0, i0, i0, i0, i0, i0, i0, i0, i0, i0, i0, i0, i0, i0, i0, i0, i0, i0, i0, i0, i0, i0, i0]) : M27 l Z 1 1 8 40 #[.ref pa1, i0, .int 8] h0 n0 [] [] (Q40 Z pi1 pi2 pi3 pi4 h0) := by
  refine mi B27 ef13 (hEW G) fun s X0 hsf0 n0le => ?_
  have := F0.l
  refine oI 1 X0 d27_0 rfl rfl <| oI 2 X0 d27_1 rfl rfl <| mS 5 0 X0 (rm_au26 G (by decide)) (u20 G) all0 d27_2 rfl rfl rfl lr (by decide) all0 ?_
  rintro _ _ _ _ X1 rfl K1 _ _
  refine oI 6 X1 d27_5 rfl rfl <| oI 7 X1 d27_6 rfl rfl <| o_isub 8 (v := 8) X1 d27_7 rfl (by decide) <| oT 9 (l' := #[rr pa1, ii 0, ii 8, ii 8, uu]) X1 d27_8 rfl rfl <| oI 10 X1 d27_9 rfl rfl <| nP (aty := .byte) 12 8 X1 (w16 G) d27_10 rfl (by decide) had_byte ?_
  intro _ h2 b2 k2 X2 _ _ E2 V2 A2 _ S2
  have V3 : av0 Z h2 b2 k2 8 [i0, i0, i0, i0, i0, i0, i0, i0] := V2.pad (pad_rep [] (.int (0 : Int32)) 8)
  refine oU 14 (l' := #[rr pa1, ii 0, ii 8, ii 8, rr b2]) X2 d27_12 rfl rfl rfl <| oA 15 X2 d27_14 rfl rfl <| oI 16 X2 d27_15 rfl rfl <| oa 18 X2 d27_16 rfl rfl <| oc 19 (v := 0) X2 d27_18 rfl (by decide) <| oA 20 X2 d27_19 rfl rfl ?_
  have f4 := (F0.k0 K1).ext E2
  refine oL 21 X2 f4 d27_20 rfl <| oI 22 X2 d27_21 rfl rfl <| o_isub 23 (v := 32) X2 d27_22 rfl (by decide) <| oI 24 X2 d27_23 rfl rfl <| mS 27 4 X2 (rm_au27 G (by decide)) (u21 G) all0 d27_24 rfl rfl rfl lr (by decide) all0 ?_
  rintro _ _ _ _ X5 rfl K5 _ C5
  have f6 := f4.k0 K5
  have f7 := V3.k0 K5
  have f8 := C5.safe (own_lt (by omega)) S2
  refine o_cp 30 (us := [.int pi1, .int pi2, .int pi3, .int pi4, .int 47, i0, .int 42, i0]) (vr := [.int pi1, .int pi2, .int pi3, .int pi4, .int 47, i0, .int 42, i0]) (W := 0) X5 (w150 G) (w104 G) (w102 G) (w103 G) f6 f7 (Or.inl ⟨rfl, rfl⟩) (by decide) (by decide) (by decide) (by decide) (by decide) rfl (Nat.le_of_ble_eq_true rfl) rfl d27_27 rfl rfl (by decide) (Nat.le_of_eq rfl) (by decide) (by omega) (Or.inr (by omega)) f8 ?_
  intro _ _ X9 K9 C9 V9
  have := K9.1
  refine oa 32 X9 d27_30 rfl rfl ?_
  have f10 := (A2.keep K5).keep K9
  have f11 := C9.safe (own_lt (by omega)) f8
  exact oR X9 d27_32 rfl rfl rfl (by decide) (by decide) (fun _ CC => ⟨b2, k2, rfl, V9, f10, (CC.safe (own_lt (by omega)) f11), by omega⟩)
theorem rm_au83 (G : GL l Z a0 zc fmt kpp) (F0 : av0 Z h0 pa1 pk1 32 [.int pi1, .int pi2, .int pi3, .int pi4, .int 47, i0, .int 42, i0, i0, i0, i0, i0, i0, i0, i0, i0, i0, i0, i0, i0, i0, i0, i0, i0, i0, i0, i0, i0, i0, i0, i0, i0]) : M26 l Z 2 1 8 56 #[.ref pa1, i0, .int 8] h0 n0 [] [] (Q40 Z pi1 pi2 pi3 pi4 h0) := by
  refine mi B26 ef0 (hEW G) fun s X0 hsf0 n0le => ?_
  have := F0.l
  refine oI 1 X0 d26_0 rfl rfl <| on 4 X0 d26_1 rfl ((if0 _ _).trans (teq (by decide)).2) <| oI 5 X0 d26_4 rfl rfl <| oA 6 X0 d26_5 rfl rfl <| oL 7 X0 F0 d26_6 rfl <| oN 10 X0 d26_7 rfl (feq (by decide)).1 <| oA 11 X0 d26_10 rfl rfl <| oI 12 X0 d26_11 rfl rfl <| oI 13 X0 d26_12 rfl rfl <| mS 16 0 X0 (rm_au82 G F0) (u22 G) all0 d26_13 rfl rfl rfl lr (by decide) all0 ?_
  rintro _ _ _ _ X1 ⟨xa1_2, xk1_3, rfl, q4, q5, q6, _⟩ _ _ _
  exact oR X1 d26_16 rfl rfl rfl (by decide) (by decide) (fun _ CC => ⟨xa1_2, xk1_3, rfl, q4, q5, (CC.safe (own_lt (by omega)) q6), by omega⟩)
def Q41 (Z : State) (b1 : Addr) (b2 b3 b4 b5 : Int32) (h0 : Heap) (v : Option Value) (h : Heap) (vm : Vm) : Prop := ∃ (xa1 : Addr) (xk1 : ClassId), v = none ∧ ex1 Z h b1 ∧ fd1 Z h b1 (.int 1) ∧ fd0 Z h b1 (.ref xa1) ∧ av0 Z h xa1 xk1 8 [.int b2, .int b3, .int b4, .int b5, .int 47, i0, .int 42, i0] ∧ ex0 Z h xa1 ∧ Safe Z EL0 vm h xa1 ∧ h0.size ≤ xa1 ∧ h.size > xa1
theorem rm_au84 (G : GL l Z a0 zc fmt kpp) (F0 : ex1 Z h0 pa1) (F1 : fd1 Z h0 pa1 (.int 0)) (F2 : fd0 Z h0 pa1 .null) (F3 : ex3 Z h0 pa2) (F4 : fd6 Z h0 pa2 (.int 1)) (F5 : fd7 Z h0 pa2 (.int 4)) (F6 : fd8 Z h0 pa2 (.int 0)) (F7 : fd5 Z h0 pa2 (.ref pa3)) (F8 : av0 Z h0 pa3 pk1 32 [.int pi1, .int pi2, .int pi3, .int pi4, .int 47, i0, .int 42, i0, i0, i0, i0, i0, i0, i0, i0, i0, i0, i0, i0, i0, i0, i0, i0, i0, i0, i0, i0, i0, i0, i0, i0, i0]) (ne : NE pa1 pa2 ∧ NE pa1 pa3 ∧ n0 ≤ pa1) : M21 l Z 3 1 8 71 #[.ref pa1, .ref pa2, .null] h0 n0 [pa1] [pa1] (Q41 Z pa1 pi1 pi2 pi3 pi4 h0) := by
  refine mi B21 ef12 (hEW G) fun s X0 hsf0 n0le => ?_
  have := F0.l
  have := F3.l
  have := F8.l
  have sf_pa1 := hsf0 pa1 (by simp)
  refine oA 1 X0 d21_0 rfl rfl <| o_initO 4 (W := 0) X0 (w12 G) (w13 G) (w14 G) rfl (by decide) (Nat.le_of_eq rfl) (by decide) d21_1 rfl ?_
  intro _ X2
  refine oA 5 X2 d21_4 rfl rfl <| mV 8 0 X2 F3 (rm_au22 G F7) (u16 G) all0 d21_5 rfl rfl rfl lr (by decide) all0 ?_
  rintro _ _ _ _ X3 rfl K3 _ C3
  refine oV 9 (l' := #[rr pa1, rr pa2, .val .null, rr pa3, uu]) X3 d21_8 rfl rfl rfl <| oA 10 X3 d21_9 rfl rfl ?_
  have f4 := F3.keep K3
  have f5 := F5.k0 K3
  refine mV 13 0 X3 f4 (rm_au24 G f4 f5) (u18 G) all0 d21_10 rfl rfl rfl lr (by decide) all0 ?_
  rintro _ _ _ _ X6 rfl K6 _ C6
  refine oS 15 (l' := #[rr pa1, rr pa2, .val .null, rr pa3, ii 4]) X6 d21_13 rfl rfl <| oA 16 X6 d21_15 rfl rfl ?_
  have f7 := (F4.k0 K3).k0 K6
  have f8 := f4.keep K6
  refine mV 19 0 X6 f8 (rm_au73 G f7 (by decide)) (u19 G) all0 d21_16 rfl rfl rfl lr (by decide) all0 ?_
  rintro _ _ _ _ X9 rfl K9 _ C9
  refine oy 41 X9 d21_19 (by decide) ((if0 _ _).trans (teq (by decide)).1) <| oG 44 X9 (w23 G) Via.refl ((sg5 G).ext X9.old.2) d21_41 rfl ?_
  intro _ X11
  refine on 47 X11 d21_44 rfl ((if0 _ _).trans (feq (hzc G)).1) <| oA 48 X11 d21_47 rfl rfl ?_
  have f12 := ((F6.k0 K3).k0 K6).k0 K9
  refine oF 51 X11 (w237 G) Via.refl f12 d21_48 rfl ?_
  intro _ X14
  refine oy 79 X14 d21_51 (by decide) ((if0 _ _).trans (teq (by decide)).1) <| oA 80 X14 d21_79 rfl rfl <| oc 81 (v := 1) X14 d21_80 rfl (by decide) ?_
  have f15 := ((F1.k0 K3).k0 K6).k0 K9
  have f16 := ((F0.keep K3).keep K6).keep K9
  have f18 := C9.safe (own_lt (by omega)) (C6.safe (own_lt (by omega)) (C3.safe (own_lt (by omega)) sf_pa1))
  refine oP 84 (v' := (.int 1)) X14 (w22 G) Via.refl f15 f16 (Or.inr ⟨(w18 G), rfl, rfl⟩) (w2 G) fd_1 rfl rfl d21_81 rfl (by omega) (Or.inl (by simp)) f18 ?_
  intro _ _ X17 W17 C17
  have := W17.size
  have f19 := f15.same W17
  refine oA 85 X17 d21_84 rfl rfl <| oA 86 X17 d21_85 rfl rfl <| oc 87 (v := 0) X17 d21_86 rfl (by decide) <| oi 89 X17 d21_87 rfl rfl <| oc 90 (v := 1) X17 d21_89 rfl (by decide) <| o_ishl 91 (v := 8) X17 d21_90 rfl (by decide) ?_
  have f20 := (((F8.k0 K3).k0 K6).k0 K9).oth W17 (by omega)
  refine mS 94 1 X17 (rm_au83 G f20) (u23 G) all0 d21_91 rfl rfl rfl lr (by decide) all0 ?_
  rintro _ _ _ _ X21 ⟨xa1_22, xk1_23, rfl, q24, q25, q26, _⟩ K21 _ C21
  have f28 := ((((F2.k0 K3).k0 K6).k0 K9).other W17 (Or.inr (sn1 G))).k0 K21
  have f29 := (f16.wr W17).keep K21
  have f31 := C21.safe (own_lt (by omega)) (C17.safe (own_lt (by omega)) f18)
  refine oP 97 (v' := (.ref xa1_22)) X21 (w21 G) Via.refl f28 f29 (Or.inr ⟨(w17 G), rfl, rfl⟩) (w2 G) fd_0 rfl rfl d21_94 rfl (by omega) (Or.inl (by simp)) f31 ?_
  intro _ _ X30 W30 C30
  have := W30.size
  have f32 := f28.same W30
  have f33 := f29.wr W30
  have f34 := (f19.k0 K21).other W30 (Or.inr (sn0 G))
  have f35 := q24.oth W30 (by omega)
  have f36 := q25.wr W30
  have f37 := C30.safe (own_lt (by omega)) q26
  exact oz X30 d21_97 rfl (by decide) (by decide) (fun _ CC => ⟨xa1_22, xk1_23, rfl, f33, f34, f32, f35, f36, (CC.safe (own_lt (by omega)) f37), by omega⟩)
theorem rm_au85 (G : GL l Z a0 zc fmt kpp) (F0 : ex1 Z h0 pa1) (F1 : fd1 Z h0 pa1 (.int 0)) (F2 : fd0 Z h0 pa1 .null) (F3 : ex3 Z h0 pa2) (F4 : fd6 Z h0 pa2 (.int 1)) (F5 : fd7 Z h0 pa2 (.int 4)) (F6 : fd8 Z h0 pa2 (.int 0)) (F7 : fd5 Z h0 pa2 (.ref pa3)) (F8 : av0 Z h0 pa3 pk1 32 [.int pi1, .int pi2, .int pi3, .int pi4, .int 47, i0, .int 42, i0, i0, i0, i0, i0, i0, i0, i0, i0, i0, i0, i0, i0, i0, i0, i0, i0, i0, i0, i0, i0, i0, i0, i0, i0]) (ne : NE pa1 pa2 ∧ NE pa1 pa3 ∧ n0 ≤ pa1) : M20 l Z 4 1 8 87 #[.ref pa1, .ref pa2] h0 n0 [pa1] [pa1] (Q41 Z pa1 pi1 pi2 pi3 pi4 h0) := by
  refine mi B20 ef3 (hEW G) fun s X0 hsf0 n0le => ?_
  have := F0.l
  have := F3.l
  have := F8.l
  have sf_pa1 := hsf0 pa1 (by simp)
  refine oA 1 X0 d20_0 rfl rfl <| oA 2 X0 d20_1 rfl rfl <| o_aconstNull 3 X0 d20_2 rfl <| mP 6 0 X0 (rm_au84 G F0 F1 F2 F3 F4 F5 F6 F7 F8 (by omega)) (u24 G) (sS (by omega) sf_pa1 all0) d20_3 rfl rfl rfl lr (by decide) (aI (by omega) (by simp) all0) ?_
  rintro _ _ _ _ X1 ⟨xa1_2, xk1_3, rfl, q4, q5, q6, q7, q8, q9, _⟩ _ _ _
  exact oz X1 d20_6 rfl (by decide) (by decide) (fun _ CC => ⟨xa1_2, xk1_3, rfl, q4, q5, q6, q7, q8, (CC.safe (own_lt (by omega)) q9), by omega⟩)
def Q42 (Z : State) (b1 b2 b3 b4 : Int32) (h0 : Heap) (v : Option Value) (h : Heap) (vm : Vm) : Prop := ∃ (xa1 : Addr) (xa2 : Addr) (xk1 : ClassId), v = some (.ref xa1) ∧ ex1 Z h xa1 ∧ fd1 Z h xa1 (.int 1) ∧ fd0 Z h xa1 (.ref xa2) ∧ Safe Z EL0 vm h xa1 ∧ av0 Z h xa2 xk1 8 [.int b1, .int b2, .int b3, .int b4, .int 47, i0, .int 42, i0] ∧ ex0 Z h xa2 ∧ Safe Z EL0 vm h xa2 ∧ h0.size ≤ xa1 ∧ h.size > xa1 ∧ h0.size ≤ xa2 ∧ h.size > xa2 ∧ NE xa1 xa2
theorem rm_au86 (G : GL l Z a0 zc fmt kpp) (F0 : ex3 Z h0 pa1) (F1 : fd6 Z h0 pa1 (.int 1)) (F2 : fd7 Z h0 pa1 (.int 4)) (F3 : fd8 Z h0 pa1 (.int 0)) (F4 : fd5 Z h0 pa1 (.ref pa2)) (F5 : av0 Z h0 pa2 pk1 32 [.int pi1, .int pi2, .int pi3, .int pi4, .int 47, i0, .int 42, i0, i0, i0, i0, i0, i0, i0, i0, i0, i0, i0, i0, i0, i0, i0, i0, i0, i0, i0, i0, i0, i0, i0, i0, i0]) : M19 l Z 5 2 12 101 #[.ref pa1] h0 n0 [] [] (Q42 Z pi1 pi2 pi3 pi4 h0) := by
  refine mi B19 ef7 (hEW G) fun s X0 hsf0 n0le => ?_
  have l1 := F0.l
  have := F5.l
  refine o_new 3 X0 (w111 G) (w2 G) (w3 G) d19_0 rfl (by decide) (by decide) ?_
  intro _ h1 b1 X1 _ l1 E1 A1 D1 _ _ S1
  have f2 : fd0 Z h1 b1 .null := D1 (Or.inr (w17 G)) fd_0
  have f3 : fd1 Z h1 b1 (.int 0) := D1 (Or.inr (w18 G)) fd_1
  refine oD 4 X1 d19_3 rfl rfl <| oA 5 X1 d19_4 rfl rfl ?_
  have f4 := F0.ext E1
  have f5 := F1.ext E1
  have f6 := F2.ext E1
  have f7 := F3.ext E1
  have f8 := F4.ext E1
  have f9 := F5.ext E1
  refine mP 8 1 X1 (rm_au85 G A1 f3 f2 f4 f5 f6 f7 f8 f9 (by omega)) (u25 G) (sS (by omega) S1 all0) d19_5 rfl rfl rfl lr (by decide) (aR (by omega) all0) ?_
  rintro _ _ _ _ X10 ⟨xa1_11, xk1_12, rfl, q13, q14, q15, q16, q17, q18, _⟩ _ _ C10
  have f20 := C10.safe (own_lt (by omega)) S1
  exact oR X10 d19_8 rfl rfl rfl (by decide) (by decide) (fun _ CC => ⟨b1, xa1_11, xk1_12, rfl, q13, q14, q15, (CC.safe (own_lt (by omega)) f20), q16, q17, (CC.safe (own_lt (by omega)) q18), by omega⟩)
def Q43 (Z : State) (b1 b2 : Addr) (b3 b4 b5 b6 : Int32) (h0 : Heap) (v : Option Value) (h : Heap) (vm : Vm) : Prop := ∃ (xa1 : Addr) (xa2 : Addr) (xa3 : Addr) (xk1 : ClassId), v = some (.ref xa1) ∧ ex4 Z h xa1 ∧ fd3 Z h xa1 (.ref b1) ∧ fd2 Z h xa1 (.ref xa2) ∧ fd4 Z h xa1 (.ref b2) ∧ ex1 Z h xa2 ∧ fd1 Z h xa2 (.int 1) ∧ fd0 Z h xa2 (.ref xa3) ∧ Safe Z EL0 vm h xa2 ∧ av0 Z h xa3 xk1 8 [.int b3, .int b4, .int b5, .int b6, .int 47, i0, .int 42, i0] ∧ ex0 Z h xa3 ∧ Safe Z EL0 vm h xa3 ∧ h0.size ≤ xa1 ∧ h.size > xa1 ∧ h0.size ≤ xa2 ∧ h.size > xa2 ∧ NE xa1 xa2 ∧ h0.size ≤ xa3 ∧ h.size > xa3 ∧ NE xa1 xa3 ∧ NE xa2 xa3
theorem rm_au87 (G : GL l Z a0 zc fmt kpp) (F0 : ex1 Z h0 pa1) (F1 : fd1 Z h0 pa1 (.int 1)) (F2 : fd0 Z h0 pa1 (.ref pa2)) (F3 : av0 Z h0 pa2 pk1 4 [.int pi100, .int pi101, .int pi1, .int pi2]) (F4 : ex0 Z h0 pa2) : M8 l Z 10 8 79 145 #[.ref pa1] h0 n0 [] [] (Q43 Z kpp pa1 pi100 pi101 pi1 pi2 h0) := by
  have hw := G.1
  refine mi B8 ef7 (hEW G) fun s X0 hsf0 n0le => ?_
  have l1 := F0.l
  have := F3.l
  refine o_new 3 X0 (w38 G) (w39 G) (w36 G) d8_0 rfl (by decide) (by decide) ?_
  intro _ h1 b1 X1 _ l1 E1 A1 D1 _ _ _
  have f2 : fd2 Z h1 b1 .null := D1 (Or.inr (w159 G)) fd_2
  have f3 : fd3 Z h1 b1 .null := D1 (Or.inr (w161 G)) fd_3
  have f4 : fd4 Z h1 b1 .null := D1 (Or.inr (w163 G)) fd_2
  refine oD 4 X1 d8_3 rfl rfl <| o_new 7 X1 (w40 G) (w41 G) (w42 G) d8_4 rfl (by decide) (by decide) ?_
  intro _ h5 b5 X5 _ _ E5 A5 D5 _ _ _
  have f6 : fd5 Z h5 b5 .null := D5 (Or.inl (w55 G)) fd_0
  have f7 : fd6 Z h5 b5 (.int 0) := D5 (Or.inl (w57 G)) fd_1
  have f8 : fd7 Z h5 b5 (.int 0) := D5 (Or.inl (w79 G)) fd_4
  have f9 : fd8 Z h5 b5 (.int 0) := D5 (Or.inl (w238 G)) fd_5
  refine oD 8 X5 d8_7 rfl rfl <| mP 11 3 X5 (rm_au8 G A5 f7 f8 f9 f6 (by omega)) (u6 G) all0 d8_8 rfl rfl rfl lr (by decide) (aR (by omega) all0) ?_
  rintro _ _ _ _ X10 ⟨xa1_11, _, rfl, q13, q14, q15, q16, q17, q18, _, q20, _⟩ K10 _ _
  refine oA 12 X10 d8_11 rfl rfl ?_
  have f22 := ((F0.ext E1).ext E5).keep K10
  have f23 := ((F1.ext E1).ext E5).k1 K10 (by omega)
  have f24 := ((F2.ext E1).ext E5).k1 K10 (by omega)
  have f25 := ((F3.ext E1).ext E5).k1 K10 (by omega)
  refine mV 15 2 X10 q13 (rm_au72 G q13 q14 q15 q16 q17 f22 f23 f24 q18 f25 (by omega)) (u15 G) all0 d8_12 rfl rfl rfl lr (by decide) (aR (by omega) all0) ?_
  rintro _ _ _ _ X26 ⟨xa1_27, _, rfl, q29, q30, q31, q32, q33, q34, q35, q36, _⟩ K26 _ C26
  refine o_ldcC 17 (n := 8) (vs := own_bs ([47, 42] : List Int32)) (z := (2 : Int32)) X26 (w105 G) (hws_str hw) (by decide) ⟨by decide, rfl⟩ (by decide) (by decide) d8_15 rfl (by decide) (by decide) (by decide) (by decide) ?_
  intro a38 b38 kb38 _ h38 _ X38 E38 C38 Es38 Cs38 Vs38 As38 SF38
  have lta38 : h38.size > a38 := Es38.lt
  have ltb38 : h38.size > b38 := As38.lt
  have := E38.1
  have Bs38 : av0 Z h38 b38 kb38 2 [.int 47, .int 42] := As38
  have f40 := (((A1.ext E5).keep K10).keep K26).ext E38
  have := own_nes (SF38 b1 (sx X38 f40 nc2))
  have f42 := q29.ext E38
  have := own_nes (SF38 b5 (sx X38 f42 nc1))
  have f44 := C38.safe (own_lt (by omega)) (C26.safe (own_lt (by omega)) q20)
  have := own_nes (SF38 xa1_11 f44)
  have f46 := C38.safe (own_lt (by omega)) q36
  have := own_nes (SF38 xa1_27 f46)
  have f47 := q30.ext E38
  have f48 := q31.ext E38
  have f49 := q32.ext E38
  have f50 := q33.ext E38
  have f51 := q34.ext E38
  have f52 := q35.ext E38
  refine mV 20 2 X38 f42 (rm_au81 G f42 f47 f48 f49 f50 Es38 Cs38 Vs38 f51 f52 Bs38 (by omega)) (u15 G) (sS (by omega) f46 all0) d8_17 rfl rfl rfl lr (by decide) (aR (by omega) (aR (by omega) all0)) ?_
  rintro _ _ _ _ X53 ⟨rfl, q54, q55, q56, q57, q58, q59, _⟩ K53 _ _
  refine mV 23 2 X53 q54 (rm_au86 G q54 q55 q56 q57 q58 q59) (u26 G) all0 d8_20 rfl rfl rfl lr (by decide) all0 ?_
  rintro _ _ _ _ X61 ⟨xa1_62, xa2_63, xk1_64, rfl, q65, q66, q67, q68, q69, q70, q71, _⟩ K61 _ _
  refine oG 26 X61 (w151 G) Via.refl ((sg1 G).ext X61.old.2) d8_23 rfl ?_
  intro _ X74
  refine oA 27 X74 d8_26 rfl rfl ?_
  have f75 := (f40.keep K53).keep K61
  have f76 := (((((f3.ext E5).k1 K10 (by omega)).k1 K26 (by omega)).ext E38).k2 K53 (by omega)).k0 K61
  have f77 := (((((f2.ext E5).k1 K10 (by omega)).k1 K26 (by omega)).ext E38).k2 K53 (by omega)).k0 K61
  have f78 := (((((f4.ext E5).k1 K10 (by omega)).k1 K26 (by omega)).ext E38).k2 K53 (by omega)).k0 K61
  refine mP 30 1 X74 (rm_au33 G f75 f76 f77 f78 (by omega)) (u27 G) all0 d8_27 rfl rfl rfl lr (by decide) (aR (by omega) all0) ?_
  rintro _ _ _ _ X79 ⟨rfl, q80, q81, q82, q83⟩ K79 _ C79
  have f84 := q65.keep K79
  have f85 := q66.k1 K79 (by omega)
  have f86 := q67.k1 K79 (by omega)
  have f87 := C79.safe (own_lt (by omega)) q68
  have f88 := q69.k1 K79 (by omega)
  have f89 := q70.keep K79
  have f90 := C79.safe (own_lt (by omega)) q71
  exact oR X79 d8_30 rfl rfl rfl (by decide) (by decide) (fun _ CC => ⟨b1, xa1_62, xa2_63, xk1_64, rfl, q80, q81, q82, q83, f84, f85, f86, (CC.safe (own_lt (by omega)) f87), f88, f89, (CC.safe (own_lt (by omega)) f90), by omega⟩)
theorem rm_au88 (G : GL l Z a0 zc fmt kpp) (F0 : av0 Z h0 pa1 pk1 8 [.int pi1, .int pi2, .int pi3, .int pi4, .int pi5, .int pi6, .int pi7, .int pi8]) (F1 : av0 Z h0 pa2 pk2 8 [.int pi9, .int pi10, .int pi3, .int pi4, .int pi11, .int pi12, .int pi13, .int pi14]) (pc_0 : pi1 = pi9) (pc_1 : pi2 = pi10) (pc_2 : pi5 = pi11) (pc_3 : pi6 = pi12) (pc_4 : pi7 = pi13) (pc_5 : pi8 = pi14) : M33 l Z 0 0 0 0 #[.ref pa1, .ref pa2] h0 n0 [] [] (Q16 Z  h0) := by
  refine mi B33 ef8 (hEW G) fun s X0 hsf0 n0le => ?_
  have := F0.l
  have := F1.l
  refine oA 1 X0 d33_0 rfl rfl <| oL 2 X0 F0 d33_1 rfl <| oA 3 X0 d33_2 rfl rfl <| oL 4 X0 F1 d33_3 rfl <| oN 7 X0 d33_4 rfl (teq (by decide)).2 <| oc 8 (v := 0) X0 d33_7 rfl (by decide) <| oT 9 (l' := #[rr pa1, rr pa2, ii 0]) X0 d33_8 rfl rfl <| oI 10 X0 d33_9 rfl rfl <| oA 11 X0 d33_10 rfl rfl <| oL 12 X0 F0 d33_11 rfl <| oN 15 X0 d33_12 rfl (tlt (by decide)).2.1 <| oA 16 X0 d33_15 rfl rfl ?_
  refine oI 17 X0 d33_16 rfl rfl <| oB 18 (v := (.int pi1)) X0 F0 ⟨by decide, by decide⟩ rfl d33_17 rfl <| oA 19 X0 d33_18 rfl rfl <| oI 20 X0 d33_19 rfl rfl <| oB 21 (v := (.int pi9)) X0 F1 ⟨by decide, by decide⟩ rfl d33_20 rfl <| oY 26 X0 d33_21 (by decide) (teq pc_0).1 <| oJ 29 1 #[rr pa1, rr pa2, ii 1] X0 d33_26 rfl rfl (by decide) rfl <| og 9 X0 d33_29 (by decide) <| oI 10 X0 d33_9 rfl rfl <| oA 11 X0 d33_10 rfl rfl <| oL 12 X0 F0 d33_11 rfl <| oN 15 X0 d33_12 rfl (tlt (by decide)).2.1 ?_
  refine oA 16 X0 d33_15 rfl rfl <| oI 17 X0 d33_16 rfl rfl <| oB 18 (v := (.int pi2)) X0 F0 ⟨by decide, by decide⟩ rfl d33_17 rfl <| oA 19 X0 d33_18 rfl rfl <| oI 20 X0 d33_19 rfl rfl <| oB 21 (v := (.int pi10)) X0 F1 ⟨by decide, by decide⟩ rfl d33_20 rfl <| oY 26 X0 d33_21 (by decide) (teq pc_1).1 <| oJ 29 2 #[rr pa1, rr pa2, ii 2] X0 d33_26 rfl rfl (by decide) rfl <| og 9 X0 d33_29 (by decide) <| oI 10 X0 d33_9 rfl rfl <| oA 11 X0 d33_10 rfl rfl <| oL 12 X0 F0 d33_11 rfl ?_
  refine oN 15 X0 d33_12 rfl (tlt (by decide)).2.1 <| oA 16 X0 d33_15 rfl rfl <| oI 17 X0 d33_16 rfl rfl <| oB 18 (v := (.int pi3)) X0 F0 ⟨by decide, by decide⟩ rfl d33_17 rfl <| oA 19 X0 d33_18 rfl rfl <| oI 20 X0 d33_19 rfl rfl <| oB 21 (v := (.int pi3)) X0 F1 ⟨by decide, by decide⟩ rfl d33_20 rfl <| oY 26 X0 d33_21 (by decide) (teq rfl).1 <| oJ 29 3 #[rr pa1, rr pa2, ii 3] X0 d33_26 rfl rfl (by decide) rfl <| og 9 X0 d33_29 (by decide) <| oI 10 X0 d33_9 rfl rfl <| oA 11 X0 d33_10 rfl rfl ?_
  refine oL 12 X0 F0 d33_11 rfl <| oN 15 X0 d33_12 rfl (tlt (by decide)).2.1 <| oA 16 X0 d33_15 rfl rfl <| oI 17 X0 d33_16 rfl rfl <| oB 18 (v := (.int pi4)) X0 F0 ⟨by decide, by decide⟩ rfl d33_17 rfl <| oA 19 X0 d33_18 rfl rfl <| oI 20 X0 d33_19 rfl rfl <| oB 21 (v := (.int pi4)) X0 F1 ⟨by decide, by decide⟩ rfl d33_20 rfl <| oY 26 X0 d33_21 (by decide) (teq rfl).1 <| oJ 29 4 #[rr pa1, rr pa2, ii 4] X0 d33_26 rfl rfl (by decide) rfl <| og 9 X0 d33_29 (by decide) <| oI 10 X0 d33_9 rfl rfl ?_
  refine oA 11 X0 d33_10 rfl rfl <| oL 12 X0 F0 d33_11 rfl <| oN 15 X0 d33_12 rfl (tlt (by decide)).2.1 <| oA 16 X0 d33_15 rfl rfl <| oI 17 X0 d33_16 rfl rfl <| oB 18 (v := (.int pi5)) X0 F0 ⟨by decide, by decide⟩ rfl d33_17 rfl <| oA 19 X0 d33_18 rfl rfl <| oI 20 X0 d33_19 rfl rfl <| oB 21 (v := (.int pi11)) X0 F1 ⟨by decide, by decide⟩ rfl d33_20 rfl <| oY 26 X0 d33_21 (by decide) (teq pc_2).1 <| oJ 29 5 #[rr pa1, rr pa2, ii 5] X0 d33_26 rfl rfl (by decide) rfl <| og 9 X0 d33_29 (by decide) ?_
  refine oI 10 X0 d33_9 rfl rfl <| oA 11 X0 d33_10 rfl rfl <| oL 12 X0 F0 d33_11 rfl <| oN 15 X0 d33_12 rfl (tlt (by decide)).2.1 <| oA 16 X0 d33_15 rfl rfl <| oI 17 X0 d33_16 rfl rfl <| oB 18 (v := (.int pi6)) X0 F0 ⟨by decide, by decide⟩ rfl d33_17 rfl <| oA 19 X0 d33_18 rfl rfl <| oI 20 X0 d33_19 rfl rfl <| oB 21 (v := (.int pi12)) X0 F1 ⟨by decide, by decide⟩ rfl d33_20 rfl <| oY 26 X0 d33_21 (by decide) (teq pc_3).1 <| oJ 29 6 #[rr pa1, rr pa2, ii 6] X0 d33_26 rfl rfl (by decide) rfl ?_
  refine og 9 X0 d33_29 (by decide) <| oI 10 X0 d33_9 rfl rfl <| oA 11 X0 d33_10 rfl rfl <| oL 12 X0 F0 d33_11 rfl <| oN 15 X0 d33_12 rfl (tlt (by decide)).2.1 <| oA 16 X0 d33_15 rfl rfl <| oI 17 X0 d33_16 rfl rfl <| oB 18 (v := (.int pi7)) X0 F0 ⟨by decide, by decide⟩ rfl d33_17 rfl <| oA 19 X0 d33_18 rfl rfl <| oI 20 X0 d33_19 rfl rfl <| oB 21 (v := (.int pi13)) X0 F1 ⟨by decide, by decide⟩ rfl d33_20 rfl <| oY 26 X0 d33_21 (by decide) (teq pc_4).1 ?_
  refine oJ 29 7 #[rr pa1, rr pa2, ii 7] X0 d33_26 rfl rfl (by decide) rfl <| og 9 X0 d33_29 (by decide) <| oI 10 X0 d33_9 rfl rfl <| oA 11 X0 d33_10 rfl rfl <| oL 12 X0 F0 d33_11 rfl <| oN 15 X0 d33_12 rfl (tlt (by decide)).2.1 <| oA 16 X0 d33_15 rfl rfl <| oI 17 X0 d33_16 rfl rfl <| oB 18 (v := (.int pi8)) X0 F0 ⟨by decide, by decide⟩ rfl d33_17 rfl <| oA 19 X0 d33_18 rfl rfl <| oI 20 X0 d33_19 rfl rfl <| oB 21 (v := (.int pi14)) X0 F1 ⟨by decide, by decide⟩ rfl d33_20 rfl ?_
  refine oY 26 X0 d33_21 (by decide) (teq pc_5).1 <| oJ 29 8 #[rr pa1, rr pa2, ii 8] X0 d33_26 rfl rfl (by decide) rfl <| og 9 X0 d33_29 (by decide) <| oI 10 X0 d33_9 rfl rfl <| oA 11 X0 d33_10 rfl rfl <| oL 12 X0 F0 d33_11 rfl <| oY 32 X0 d33_12 (by decide) (flt (by decide)).2.1 <| oc 33 (v := 1) X0 d33_32 rfl (by decide) ?_
  exact o_nret (y := (1 : Int32)) (t := .boolean) X0 d33_33 rfl (by decide) (by simp) (by decide) (by decide) (fun _ CC => rfl)
theorem rm_au89 (G : GL l Z a0 zc fmt kpp) (F0 : fd1 Z h0 pa1 (.int pi100)) (F1 : fd0 Z h0 pa1 (.ref pa3)) (F2 : ex1 Z h0 pa2) (F3 : fd1 Z h0 pa2 (.int pi101)) (F4 : fd0 Z h0 pa2 (.ref pa4)) (F5 : av0 Z h0 pa3 pk1 8 [.int pi102, .int pi103, .int pi1, .int pi2, .int pi104, .int pi105, .int pi106, .int pi107]) (F6 : av0 Z h0 pa4 pk2 8 [.int pi108, .int pi109, .int pi1, .int pi2, .int pi110, .int pi111, .int pi112, .int pi113]) (pc_0 : pi100 = pi101) (pc_1 : pi102 = pi108) (pc_2 : pi103 = pi109) (pc_3 : pi104 = pi110) (pc_4 : pi105 = pi111) (pc_5 : pi106 = pi112) (pc_6 : pi107 = pi113) (ne : NE pa1 pa2) : M32 l Z 1 0 0 14 #[.ref pa1, .ref pa2] h0 n0 [] [] (Q16 Z  h0) := by
  refine mi B32 ef8 (hEW G) fun s X0 hsf0 n0le => ?_
  have := F0.l
  have := F2.l
  have := F5.l
  have := F6.l
  refine oA 1 X0 d32_0 rfl rfl <| oA 2 X0 d32_1 rfl rfl <| o_acmp 7 (same := false) X0 d32_2 rfl rfl (decide_eq_false (fun q => absurd (Value.ref.inj q) (own_ne (by omega)))) (by decide) (by decide) <| oA 8 X0 d32_7 rfl rfl <| o_instY 11 X0 (w174 G) (Ins.self F2) d32_8 rfl ?_
  intro _ X2
  refine on 14 X2 d32_11 rfl ((if0 _ _).trans (feq (by decide)).1) <| oA 15 X2 d32_14 rfl rfl <| o_castY 18 X2 (w174 G) (Ins.self F2) d32_15 rfl ?_
  intro _ X4
  refine oV 19 (l' := #[rr pa1, rr pa2, rr pa2]) X4 d32_18 rfl rfl rfl <| oG 22 X4 (w23 G) Via.refl ((sg5 G).ext X4.old.2) d32_19 rfl ?_
  intro _ X6
  refine on 25 X6 d32_22 rfl ((if0 _ _).trans (feq (hzc G)).1) <| oA 26 X6 d32_25 rfl rfl <| oF 29 X6 (w22 G) Via.refl F0 d32_26 rfl ?_
  intro _ X8
  refine oA 30 X8 d32_29 rfl rfl <| oF 33 X8 (w22 G) Via.refl F3 d32_30 rfl ?_
  intro _ X10
  refine oN 36 X10 d32_33 rfl (teq pc_0).2 <| oA 37 X10 d32_36 rfl rfl <| oF 40 X10 (w21 G) Via.refl F1 d32_37 rfl ?_
  intro _ X12
  refine oA 41 X12 d32_40 rfl rfl <| oF 44 X12 (w21 G) Via.refl F4 d32_41 rfl ?_
  intro _ X14
  refine mS 47 0 X14 (rm_au88 G F5 F6 pc_1 pc_2 pc_3 pc_4 pc_5 pc_6) (u30 G) all0 d32_44 rfl rfl rfl lr (by decide) all0 ?_
  rintro _ _ _ _ X15 rfl _ _ _
  refine on 50 X15 d32_47 rfl ((if0 _ _).trans (feq (by decide)).1) <| oc 51 (v := 1) X15 d32_50 rfl (by decide) <| og 55 X15 d32_51 (by decide) ?_
  exact o_nret (y := (1 : Int32)) (t := .boolean) X15 d32_55 rfl (by decide) (by simp) (by decide) (by decide) (fun _ CC => rfl)
def Q44 (Z : State) (b1 : Addr) (b2 : ClassId) (b3 : Int32) (h0 : Heap) (v : Option Value) (h : Heap) (vm : Vm) : Prop := v = some (.int 2) ∧ av0 Z h b1 b2 2 [.int 47, .int (b3.toInt8.toInt32)] ∧ ex0 Z h b1
theorem rm_au90 (G : GL l Z a0 zc fmt kpp) (F0 : av1 Z h0 pa1 pk1 2 [.int 47, .int pi1]) (F1 : av0 Z h0 pa2 pk2 2 [i0, i0]) (F2 : ex0 Z h0 pa2) (rg_pi1 : ¬ pi1 < 0 ∧ ¬ (255 : Int32) < pi1) (ne : NE pa1 pa2 ∧ n0 ≤ pa2) : M6 l Z 0 0 0 0 #[.ref pa1, i0, .ref pa2, i0, .int 2] h0 n0 [pa2] [pa2] (Q44 Z pa2 pk2 pi1 h0) := by
  refine mi B6 ef6 (hEW G) fun s X0 hsf0 n0le => ?_
  have := F0.l
  have := F1.l
  have sf_pa2 := hsf0 pa2 (by simp)
  refine oc 1 (v := 0) X0 d6_0 rfl (by decide) <| oS 3 (l' := #[rr pa1, ii 0, rr pa2, ii 0, ii 2, ii 0, uu]) X0 d6_1 rfl rfl <| oi 5 X0 d6_3 rfl rfl <| oi 7 X0 d6_5 rfl rfl <| oN 10 X0 d6_7 rfl (tlt (by decide)).2.1 <| oA 11 X0 d6_10 rfl rfl <| oI 12 X0 d6_11 rfl rfl <| oC 13 (v := (.int 47)) X0 F0 ⟨by decide, by decide⟩ rfl d6_12 rfl <| oS 15 (l' := #[rr pa1, ii 0, rr pa2, ii 0, ii 2, ii 0, ii 47]) X0 d6_13 rfl rfl <| oi 17 X0 d6_15 rfl rfl <| o_sipush 20 (v := 255) X0 d6_17 rfl (by decide) <| oY 26 X0 d6_20 (by decide) (flt (by decide)).2.2.2 ?_
  refine oA 27 X0 d6_26 rfl rfl <| oI 28 X0 d6_27 rfl rfl <| oi 30 X0 d6_28 rfl rfl <| o_i2b 31 (v := 47) X0 d6_30 rfl (by decide) <| sB 32 0 47 X0 F1 (by decide) (lb rfl) (by decide) d6_31 rfl (by omega) (Or.inl (by simp)) sf_pa2 ?_
  rintro _ _ X1 ⟨_, _, W1⟩ C1 V1
  have := W1.size
  have V2 := V1.as [.int 47, i0] rfl
  refine oJ 35 1 #[rr pa1, ii 1, rr pa2, ii 0, ii 2, ii 0, ii 47] X1 d6_32 rfl rfl (by decide) rfl <| oJ 38 1 #[rr pa1, ii 1, rr pa2, ii 1, ii 2, ii 0, ii 47] X1 d6_35 rfl rfl (by decide) rfl <| oJ 41 1 #[rr pa1, ii 1, rr pa2, ii 1, ii 2, ii 1, ii 47] X1 d6_38 rfl rfl (by decide) rfl <| og 3 X1 d6_41 (by decide) <| oi 5 X1 d6_3 rfl rfl <| oi 7 X1 d6_5 rfl rfl <| oN 10 X1 d6_7 rfl (tlt (by decide)).2.1 <| oA 11 X1 d6_10 rfl rfl <| oI 12 X1 d6_11 rfl rfl ?_
  have f3 := F0.oth W1 (by omega)
  refine oC 13 (v := (.int pi1)) X1 f3 ⟨by decide, by decide⟩ rfl d6_12 rfl <| oS 15 (l' := #[rr pa1, ii 1, rr pa2, ii 1, ii 2, ii 1, ii pi1]) X1 d6_13 rfl rfl <| oi 17 X1 d6_15 rfl rfl <| o_sipush 20 (v := 255) X1 d6_17 rfl (by decide) <| oY 26 X1 d6_20 (by decide) (flt rg_pi1.2).2.2.2 <| oA 27 X1 d6_26 rfl rfl <| oI 28 X1 d6_27 rfl rfl <| oi 30 X1 d6_28 rfl rfl <| o_i2b 31 (v := (pi1.toInt8.toInt32)) X1 d6_30 rfl rfl ?_
  have f5 := C1.safe (own_lt (by omega)) sf_pa2
  refine sB 32 1 (pi1.toInt8.toInt32) X1 V2 (by decide) (lb rfl) (own_narB _) d6_31 rfl (by omega) (Or.inl (by simp)) f5 ?_
  rintro _ _ X4 ⟨_, _, W4⟩ _ V4
  have := W4.size
  have V6 := V4.as [.int 47, .int (pi1.toInt8.toInt32)] rfl
  refine oJ 35 2 #[rr pa1, ii 2, rr pa2, ii 1, ii 2, ii 1, ii pi1] X4 d6_32 rfl rfl (by decide) rfl <| oJ 38 2 #[rr pa1, ii 2, rr pa2, ii 2, ii 2, ii 1, ii pi1] X4 d6_35 rfl rfl (by decide) rfl <| oJ 41 2 #[rr pa1, ii 2, rr pa2, ii 2, ii 2, ii 2, ii pi1] X4 d6_38 rfl rfl (by decide) rfl <| og 3 X4 d6_41 (by decide) <| oi 5 X4 d6_3 rfl rfl <| oi 7 X4 d6_5 rfl rfl <| oY 44 X4 d6_7 (by decide) (flt (by decide)).2.1 <| oi 46 X4 d6_44 rfl rfl ?_
  have f7 := (F2.wr W1).wr W4
  exact o_iret X4 d6_46 rfl (by decide) (by decide) (fun _ CC => ⟨rfl, V6, f7⟩)
def Q45 (Z : State) (b1 : Int32) (h0 : Heap) (v : Option Value) (h : Heap) (vm : Vm) : Prop := ∃ (xa1 : Addr) (xk1 : ClassId), v = some (.ref xa1) ∧ av0 Z h xa1 xk1 2 [.int 47, .int (b1.toInt8.toInt32)] ∧ ex0 Z h xa1 ∧ Safe Z EL0 vm h xa1 ∧ h0.size ≤ xa1 ∧ h.size > xa1
theorem rm_au91 (G : GL l Z a0 zc fmt kpp) (F0 : av1 Z h0 pa1 pk1 2 [.int 47, .int pi1]) (rg_pi1 : ¬ pi1 < 0 ∧ ¬ (255 : Int32) < pi1) : M5 l Z 1 1 2 18 #[.ref pa1, i0, .int 2] h0 n0 [] [] (Q45 Z pi1 h0) := by
  refine mi B5 ef5 (hEW G) fun s X0 hsf0 n0le => ?_
  have l1 := F0.l
  refine oI 1 X0 d5_0 rfl rfl <| nP (aty := .byte) 3 2 X0 (w16 G) d5_1 rfl (by decide) had_byte ?_
  intro _ h1 b1 k1 X1 _ l1 E1 V1 A1 _ S1
  have V2 : av0 Z h1 b1 k1 2 [i0, i0] := V1.pad (pad_rep [] (.int (0 : Int32)) 2)
  refine oV 4 (l' := #[rr pa1, ii 0, ii 2, rr b1, uu, uu]) X1 d5_3 rfl rfl rfl <| oA 5 X1 d5_4 rfl rfl <| oI 6 X1 d5_5 rfl rfl <| oA 7 X1 d5_6 rfl rfl <| oc 8 (v := 0) X1 d5_7 rfl (by decide) <| oI 9 X1 d5_8 rfl rfl ?_
  have f3 := F0.ext E1
  refine mS 12 0 X1 (rm_au90 G f3 V2 A1 rg_pi1 (by omega)) (u2 G) (sS (by omega) S1 all0) d5_9 rfl rfl rfl lr (by decide) (aR (by omega) all0) ?_
  rintro _ _ _ _ X4 ⟨rfl, q5, q6⟩ _ _ C4
  refine oS 14 (l' := #[rr pa1, ii 0, ii 2, rr b1, ii 2, uu]) X4 d5_12 rfl rfl <| oi 16 X4 d5_14 rfl rfl <| oI 17 X4 d5_16 rfl rfl <| oY 57 X4 d5_17 (by decide) (teq (by decide)).1 <| oA 58 X4 d5_57 rfl rfl ?_
  have f7 := C4.safe (own_lt (by omega)) S1
  exact oR X4 d5_58 rfl rfl rfl (by decide) (by decide) (fun _ CC => ⟨b1, k1, rfl, q5, q6, (CC.safe (own_lt (by omega)) f7), by omega⟩)
def Q46 (Z : State) (b1 : Addr) (b2 : Int32) (h0 : Heap) (v : Option Value) (h : Heap) (vm : Vm) : Prop := ∃ (xa1 : Addr) (xk1 : ClassId), v = none ∧ ex1 Z h b1 ∧ fd1 Z h b1 (.int 0) ∧ fd0 Z h b1 (.ref xa1) ∧ av0 Z h xa1 xk1 2 [.int 47, .int (b2.toInt8.toInt32)] ∧ ex0 Z h xa1 ∧ Safe Z EL0 vm h xa1 ∧ h0.size ≤ xa1 ∧ h.size > xa1
theorem rm_au92 (G : GL l Z a0 zc fmt kpp) (F0 : ex1 Z h0 pa1) (F1 : fd1 Z h0 pa1 (.int 0)) (F2 : fd0 Z h0 pa1 .null) (F3 : av1 Z h0 pa2 pk1 2 [.int 47, .int pi1]) (rg_pi1 : ¬ pi1 < 0 ∧ ¬ (255 : Int32) < pi1) (ne : NE pa1 pa2 ∧ n0 ≤ pa1) : M4 l Z 2 1 2 35 #[.ref pa1, .ref pa2, i0, .int 2, .null] h0 n0 [pa1] [pa1] (Q46 Z pa1 pi1 h0) := by
  refine mi B4 ef4 (hEW G) fun s X0 hsf0 n0le => ?_
  have := F0.l
  have := F3.l
  have sf_pa1 := hsf0 pa1 (by simp)
  refine oA 1 X0 d4_0 rfl rfl <| o_initO 4 (W := 0) X0 (w12 G) (w13 G) (w14 G) rfl (by decide) (Nat.le_of_eq rfl) (by decide) d4_1 rfl ?_
  intro _ X2
  refine oI 5 X2 d4_4 rfl rfl <| oy 27 X2 d4_5 (by decide) ((if0 _ _).trans (feq (by decide)).2) <| oG 30 X2 (w23 G) Via.refl ((sg5 G).ext X2.old.2) d4_27 rfl ?_
  intro _ X4
  refine on 33 X4 d4_30 rfl ((if0 _ _).trans (feq (hzc G)).1) <| oA 34 X4 d4_33 rfl rfl <| oI 35 X4 d4_34 rfl rfl <| oI 36 X4 d4_35 rfl rfl <| mS 39 0 X4 (rm_au91 G F3 rg_pi1) (u3 G) all0 d4_36 rfl rfl rfl lr (by decide) all0 ?_
  rintro _ _ _ _ X5 ⟨xa1_6, xk1_7, rfl, q8, q9, q10, _⟩ K5 _ C5
  refine oU 41 (l' := #[rr pa1, rr pa2, ii 0, ii 2, .val .null, rr xa1_6]) X5 d4_39 rfl rfl rfl <| oA 42 X5 d4_41 rfl rfl <| oa 44 X5 d4_42 rfl rfl <| oI 45 X5 d4_44 rfl rfl <| mS 48 1 X5 (rm_au4 G q8) (u4 G) all0 d4_45 rfl rfl rfl lr (by decide) all0 ?_
  rintro _ _ _ _ X12 rfl K12 _ C12
  have f13 := (F1.k0 K5).k0 K12
  have f14 := (F0.keep K5).keep K12
  have f16 := C12.safe (own_lt (by omega)) (C5.safe (own_lt (by omega)) sf_pa1)
  refine oP 51 (v' := (.int 0)) X12 (w22 G) Via.refl f13 f14 (Or.inr ⟨(w18 G), rfl, rfl⟩) (w2 G) fd_1 rfl rfl d4_48 rfl (by omega) (Or.inl (by simp)) f16 ?_
  intro _ _ X15 W15 C15
  have := W15.size
  have f17 := f13.same W15
  refine oA 52 X15 d4_51 rfl rfl <| oa 54 X15 d4_52 rfl rfl ?_
  have f18 := ((F2.k0 K5).k0 K12).other W15 (Or.inr (sn1 G))
  have f19 := f14.wr W15
  have f21 := C15.safe (own_lt (by omega)) f16
  refine oP 57 (v' := (.ref xa1_6)) X15 (w21 G) Via.refl f18 f19 (Or.inr ⟨(w17 G), rfl, rfl⟩) (w2 G) fd_0 rfl rfl d4_54 rfl (by omega) (Or.inl (by simp)) f21 ?_
  intro _ _ X20 W20 C20
  have := W20.size
  have f22 := f18.same W20
  have f23 := f19.wr W20
  have f24 := f17.other W20 (Or.inr (sn0 G))
  have f25 := ((q8.k0 K12).oth W15 (by omega)).oth W20 (by omega)
  have f26 := ((q9.keep K12).wr W15).wr W20
  have f27 := C20.safe (own_lt (by omega)) (C15.safe (own_lt (by omega)) (C12.safe (own_lt (by omega)) q10))
  exact oz X20 d4_57 rfl (by decide) (by decide) (fun _ CC => ⟨xa1_6, xk1_7, rfl, f23, f24, f22, f25, f26, (CC.safe (own_lt (by omega)) f27), by omega⟩)
theorem rm_au93 (G : GL l Z a0 zc fmt kpp) (F0 : ex1 Z h0 pa1) (F1 : fd1 Z h0 pa1 (.int 0)) (F2 : fd0 Z h0 pa1 .null) (F3 : av1 Z h0 pa2 pk1 2 [.int 47, .int pi1]) (rg_pi1 : ¬ pi1 < 0 ∧ ¬ (255 : Int32) < pi1) (ne : NE pa1 pa2 ∧ n0 ≤ pa1) : M3 l Z 3 1 2 52 #[.ref pa1, .ref pa2] h0 n0 [pa1] [pa1] (Q46 Z pa1 pi1 h0) := by
  refine mi B3 ef3 (hEW G) fun s X0 hsf0 n0le => ?_
  have := F0.l
  have := F3.l
  have sf_pa1 := hsf0 pa1 (by simp)
  refine oA 1 X0 d3_0 rfl rfl <| oA 2 X0 d3_1 rfl rfl <| oc 3 (v := 0) X0 d3_2 rfl (by decide) <| oA 4 X0 d3_3 rfl rfl <| oL 5 X0 F3 d3_4 rfl <| o_aconstNull 6 X0 d3_5 rfl <| mP 9 0 X0 (rm_au92 G F0 F1 F2 F3 rg_pi1 (by omega)) (u0 G) (sS (by omega) sf_pa1 all0) d3_6 rfl rfl rfl lr (by decide) (aI (by omega) (by simp) all0) ?_
  rintro _ _ _ _ X1 ⟨xa1_2, xk1_3, rfl, q4, q5, q6, q7, q8, q9, _⟩ _ _ _
  exact oz X1 d3_9 rfl (by decide) (by decide) (fun _ CC => ⟨xa1_2, xk1_3, rfl, q4, q5, q6, q7, q8, (CC.safe (own_lt (by omega)) q9), by omega⟩)
def Q47 (Z : State) (b1 : Addr) (b2 : ClassId) (b3 : Int32) (h0 : Heap) (v : Option Value) (h : Heap) (vm : Vm) : Prop := v = some (.int 4) ∧ av0 Z h b1 b2 4 [.int 47, .int (b3.toInt8.toInt32), .int 47, .int 42] ∧ ex0 Z h b1
theorem rm_au94 (G : GL l Z a0 zc fmt kpp) (F0 : av1 Z h0 pa1 pk1 4 [.int 47, .int pi1, .int 47, .int 42]) (F1 : av0 Z h0 pa2 pk2 4 [i0, i0, i0, i0]) (F2 : ex0 Z h0 pa2) (rg_pi1 : ¬ pi1 < 0 ∧ ¬ (255 : Int32) < pi1) (ne : NE pa1 pa2 ∧ n0 ≤ pa2) : M6 l Z 0 0 0 0 #[.ref pa1, i0, .ref pa2, i0, .int 4] h0 n0 [pa2] [pa2] (Q47 Z pa2 pk2 pi1 h0) := by
  refine mi B6 ef6 (hEW G) fun s X0 hsf0 n0le => ?_
  have := F0.l
  have := F1.l
  have sf_pa2 := hsf0 pa2 (by simp)
  refine oc 1 (v := 0) X0 d6_0 rfl (by decide) <| oS 3 (l' := #[rr pa1, ii 0, rr pa2, ii 0, ii 4, ii 0, uu]) X0 d6_1 rfl rfl <| oi 5 X0 d6_3 rfl rfl <| oi 7 X0 d6_5 rfl rfl <| oN 10 X0 d6_7 rfl (tlt (by decide)).2.1 <| oA 11 X0 d6_10 rfl rfl <| oI 12 X0 d6_11 rfl rfl <| oC 13 (v := (.int 47)) X0 F0 ⟨by decide, by decide⟩ rfl d6_12 rfl <| oS 15 (l' := #[rr pa1, ii 0, rr pa2, ii 0, ii 4, ii 0, ii 47]) X0 d6_13 rfl rfl <| oi 17 X0 d6_15 rfl rfl <| o_sipush 20 (v := 255) X0 d6_17 rfl (by decide) <| oY 26 X0 d6_20 (by decide) (flt (by decide)).2.2.2 ?_
  refine oA 27 X0 d6_26 rfl rfl <| oI 28 X0 d6_27 rfl rfl <| oi 30 X0 d6_28 rfl rfl <| o_i2b 31 (v := 47) X0 d6_30 rfl (by decide) <| sB 32 0 47 X0 F1 (by decide) (lb rfl) (by decide) d6_31 rfl (by omega) (Or.inl (by simp)) sf_pa2 ?_
  rintro _ _ X1 ⟨_, _, W1⟩ C1 V1
  have := W1.size
  have V2 := V1.as [.int 47, i0, i0, i0] rfl
  refine oJ 35 1 #[rr pa1, ii 1, rr pa2, ii 0, ii 4, ii 0, ii 47] X1 d6_32 rfl rfl (by decide) rfl <| oJ 38 1 #[rr pa1, ii 1, rr pa2, ii 1, ii 4, ii 0, ii 47] X1 d6_35 rfl rfl (by decide) rfl <| oJ 41 1 #[rr pa1, ii 1, rr pa2, ii 1, ii 4, ii 1, ii 47] X1 d6_38 rfl rfl (by decide) rfl <| og 3 X1 d6_41 (by decide) <| oi 5 X1 d6_3 rfl rfl <| oi 7 X1 d6_5 rfl rfl <| oN 10 X1 d6_7 rfl (tlt (by decide)).2.1 <| oA 11 X1 d6_10 rfl rfl <| oI 12 X1 d6_11 rfl rfl ?_
  have f3 := F0.oth W1 (by omega)
  refine oC 13 (v := (.int pi1)) X1 f3 ⟨by decide, by decide⟩ rfl d6_12 rfl <| oS 15 (l' := #[rr pa1, ii 1, rr pa2, ii 1, ii 4, ii 1, ii pi1]) X1 d6_13 rfl rfl <| oi 17 X1 d6_15 rfl rfl <| o_sipush 20 (v := 255) X1 d6_17 rfl (by decide) <| oY 26 X1 d6_20 (by decide) (flt rg_pi1.2).2.2.2 <| oA 27 X1 d6_26 rfl rfl <| oI 28 X1 d6_27 rfl rfl <| oi 30 X1 d6_28 rfl rfl <| o_i2b 31 (v := (pi1.toInt8.toInt32)) X1 d6_30 rfl rfl ?_
  have f5 := C1.safe (own_lt (by omega)) sf_pa2
  refine sB 32 1 (pi1.toInt8.toInt32) X1 V2 (by decide) (lb rfl) (own_narB _) d6_31 rfl (by omega) (Or.inl (by simp)) f5 ?_
  rintro _ _ X4 ⟨_, _, W4⟩ C4 V4
  have := W4.size
  have V6 := V4.as [.int 47, .int (pi1.toInt8.toInt32), i0, i0] rfl
  refine oJ 35 2 #[rr pa1, ii 2, rr pa2, ii 1, ii 4, ii 1, ii pi1] X4 d6_32 rfl rfl (by decide) rfl <| oJ 38 2 #[rr pa1, ii 2, rr pa2, ii 2, ii 4, ii 1, ii pi1] X4 d6_35 rfl rfl (by decide) rfl <| oJ 41 2 #[rr pa1, ii 2, rr pa2, ii 2, ii 4, ii 2, ii pi1] X4 d6_38 rfl rfl (by decide) rfl <| og 3 X4 d6_41 (by decide) <| oi 5 X4 d6_3 rfl rfl <| oi 7 X4 d6_5 rfl rfl <| oN 10 X4 d6_7 rfl (tlt (by decide)).2.1 <| oA 11 X4 d6_10 rfl rfl <| oI 12 X4 d6_11 rfl rfl ?_
  have f7 := f3.oth W4 (by omega)
  refine oC 13 (v := (.int 47)) X4 f7 ⟨by decide, by decide⟩ rfl d6_12 rfl <| oS 15 (l' := #[rr pa1, ii 2, rr pa2, ii 2, ii 4, ii 2, ii 47]) X4 d6_13 rfl rfl <| oi 17 X4 d6_15 rfl rfl <| o_sipush 20 (v := 255) X4 d6_17 rfl (by decide) <| oY 26 X4 d6_20 (by decide) (flt (by decide)).2.2.2 <| oA 27 X4 d6_26 rfl rfl <| oI 28 X4 d6_27 rfl rfl <| oi 30 X4 d6_28 rfl rfl <| o_i2b 31 (v := 47) X4 d6_30 rfl (by decide) ?_
  have f9 := C4.safe (own_lt (by omega)) f5
  refine sB 32 2 47 X4 V6 (by decide) (lb rfl) (by decide) d6_31 rfl (by omega) (Or.inl (by simp)) f9 ?_
  rintro _ _ X8 ⟨_, _, W8⟩ C8 V8
  have := W8.size
  have V10 := V8.as [.int 47, .int (pi1.toInt8.toInt32), .int 47, i0] rfl
  refine oJ 35 3 #[rr pa1, ii 3, rr pa2, ii 2, ii 4, ii 2, ii 47] X8 d6_32 rfl rfl (by decide) rfl <| oJ 38 3 #[rr pa1, ii 3, rr pa2, ii 3, ii 4, ii 2, ii 47] X8 d6_35 rfl rfl (by decide) rfl <| oJ 41 3 #[rr pa1, ii 3, rr pa2, ii 3, ii 4, ii 3, ii 47] X8 d6_38 rfl rfl (by decide) rfl <| og 3 X8 d6_41 (by decide) <| oi 5 X8 d6_3 rfl rfl <| oi 7 X8 d6_5 rfl rfl <| oN 10 X8 d6_7 rfl (tlt (by decide)).2.1 <| oA 11 X8 d6_10 rfl rfl <| oI 12 X8 d6_11 rfl rfl ?_
  have f11 := f7.oth W8 (by omega)
  refine oC 13 (v := (.int 42)) X8 f11 ⟨by decide, by decide⟩ rfl d6_12 rfl <| oS 15 (l' := #[rr pa1, ii 3, rr pa2, ii 3, ii 4, ii 3, ii 42]) X8 d6_13 rfl rfl <| oi 17 X8 d6_15 rfl rfl <| o_sipush 20 (v := 255) X8 d6_17 rfl (by decide) <| oY 26 X8 d6_20 (by decide) (flt (by decide)).2.2.2 <| oA 27 X8 d6_26 rfl rfl <| oI 28 X8 d6_27 rfl rfl <| oi 30 X8 d6_28 rfl rfl <| o_i2b 31 (v := 42) X8 d6_30 rfl (by decide) ?_
  have f13 := C8.safe (own_lt (by omega)) f9
  refine sB 32 3 42 X8 V10 (by decide) (lb rfl) (by decide) d6_31 rfl (by omega) (Or.inl (by simp)) f13 ?_
  rintro _ _ X12 ⟨_, _, W12⟩ _ V12
  have := W12.size
  have V14 := V12.as [.int 47, .int (pi1.toInt8.toInt32), .int 47, .int 42] rfl
  refine oJ 35 4 #[rr pa1, ii 4, rr pa2, ii 3, ii 4, ii 3, ii 42] X12 d6_32 rfl rfl (by decide) rfl <| oJ 38 4 #[rr pa1, ii 4, rr pa2, ii 4, ii 4, ii 3, ii 42] X12 d6_35 rfl rfl (by decide) rfl <| oJ 41 4 #[rr pa1, ii 4, rr pa2, ii 4, ii 4, ii 4, ii 42] X12 d6_38 rfl rfl (by decide) rfl <| og 3 X12 d6_41 (by decide) <| oi 5 X12 d6_3 rfl rfl <| oi 7 X12 d6_5 rfl rfl <| oY 44 X12 d6_7 (by decide) (flt (by decide)).2.1 <| oi 46 X12 d6_44 rfl rfl ?_
  have f15 := (((F2.wr W1).wr W4).wr W8).wr W12
  exact o_iret X12 d6_46 rfl (by decide) (by decide) (fun _ CC => ⟨rfl, V14, f15⟩)
def Q48 (Z : State) (b1 : Int32) (h0 : Heap) (v : Option Value) (h : Heap) (vm : Vm) : Prop := ∃ (xa1 : Addr) (xk1 : ClassId), v = some (.ref xa1) ∧ av0 Z h xa1 xk1 4 [.int 47, .int (b1.toInt8.toInt32), .int 47, .int 42] ∧ ex0 Z h xa1 ∧ Safe Z EL0 vm h xa1 ∧ h0.size ≤ xa1 ∧ h.size > xa1
theorem rm_au95 (G : GL l Z a0 zc fmt kpp) (F0 : av1 Z h0 pa1 pk1 4 [.int 47, .int pi1, .int 47, .int 42]) (rg_pi1 : ¬ pi1 < 0 ∧ ¬ (255 : Int32) < pi1) : M5 l Z 1 1 4 18 #[.ref pa1, i0, .int 4] h0 n0 [] [] (Q48 Z pi1 h0) := by
  refine mi B5 ef5 (hEW G) fun s X0 hsf0 n0le => ?_
  have l1 := F0.l
  refine oI 1 X0 d5_0 rfl rfl <| nP (aty := .byte) 3 4 X0 (w16 G) d5_1 rfl (by decide) had_byte ?_
  intro _ h1 b1 k1 X1 _ l1 E1 V1 A1 _ S1
  have V2 : av0 Z h1 b1 k1 4 [i0, i0, i0, i0] := V1.pad (pad_rep [] (.int (0 : Int32)) 4)
  refine oV 4 (l' := #[rr pa1, ii 0, ii 4, rr b1, uu, uu]) X1 d5_3 rfl rfl rfl <| oA 5 X1 d5_4 rfl rfl <| oI 6 X1 d5_5 rfl rfl <| oA 7 X1 d5_6 rfl rfl <| oc 8 (v := 0) X1 d5_7 rfl (by decide) <| oI 9 X1 d5_8 rfl rfl ?_
  have f3 := F0.ext E1
  refine mS 12 0 X1 (rm_au94 G f3 V2 A1 rg_pi1 (by omega)) (u2 G) (sS (by omega) S1 all0) d5_9 rfl rfl rfl lr (by decide) (aR (by omega) all0) ?_
  rintro _ _ _ _ X4 ⟨rfl, q5, q6⟩ _ _ C4
  refine oS 14 (l' := #[rr pa1, ii 0, ii 4, rr b1, ii 4, uu]) X4 d5_12 rfl rfl <| oi 16 X4 d5_14 rfl rfl <| oI 17 X4 d5_16 rfl rfl <| oY 57 X4 d5_17 (by decide) (teq (by decide)).1 <| oA 58 X4 d5_57 rfl rfl ?_
  have f7 := C4.safe (own_lt (by omega)) S1
  exact oR X4 d5_58 rfl rfl rfl (by decide) (by decide) (fun _ CC => ⟨b1, k1, rfl, q5, q6, (CC.safe (own_lt (by omega)) f7), by omega⟩)
theorem rm_au96 (G : GL l Z a0 zc fmt kpp) (F0 : av0 Z h0 pa1 pk1 4 ps_pa1) : M7 l Z 0 0 0 0 #[.ref pa1, .int 4] h0 n0 [] [] (Q5 Z  h0) := by
  refine mi B7 ef1 (hEW G) fun s X0 hsf0 n0le => ?_
  have := F0.l
  refine oI 1 X0 d7_0 rfl rfl <| oA 2 X0 d7_1 rfl rfl <| oL 3 X0 F0 d7_2 rfl <| o_isub 4 (v := 0) X0 d7_3 rfl (by decide) <| ob 6 (v := 31) X0 d7_4 rfl (by decide) <| o_iushr 7 (v := 0) X0 d7_6 rfl (by decide) <| o_i2b 8 (v := 0) X0 d7_7 rfl (by decide) ?_
  exact o_nret (y := (0 : Int32)) (t := .byte) X0 d7_8 rfl (by decide) (by simp) (by decide) (by decide) (fun _ CC => rfl)
def Q49 (Z : State) (b1 : Addr) (b2 : Int32) (h0 : Heap) (v : Option Value) (h : Heap) (vm : Vm) : Prop := ∃ (xa1 : Addr) (xk1 : ClassId), v = none ∧ ex1 Z h b1 ∧ fd1 Z h b1 (.int 0) ∧ fd0 Z h b1 (.ref xa1) ∧ av0 Z h xa1 xk1 4 [.int 47, .int (b2.toInt8.toInt32), .int 47, .int 42] ∧ ex0 Z h xa1 ∧ Safe Z EL0 vm h xa1 ∧ h0.size ≤ xa1 ∧ h.size > xa1
theorem rm_au97 (G : GL l Z a0 zc fmt kpp) (F0 : ex1 Z h0 pa1) (F1 : fd1 Z h0 pa1 (.int 0)) (F2 : fd0 Z h0 pa1 .null) (F3 : av1 Z h0 pa2 pk1 4 [.int 47, .int pi1, .int 47, .int 42]) (rg_pi1 : ¬ pi1 < 0 ∧ ¬ (255 : Int32) < pi1) (ne : NE pa1 pa2 ∧ n0 ≤ pa1) : M4 l Z 2 1 4 35 #[.ref pa1, .ref pa2, i0, .int 4, .null] h0 n0 [pa1] [pa1] (Q49 Z pa1 pi1 h0) := by
  refine mi B4 ef4 (hEW G) fun s X0 hsf0 n0le => ?_
  have := F0.l
  have := F3.l
  have sf_pa1 := hsf0 pa1 (by simp)
  refine oA 1 X0 d4_0 rfl rfl <| o_initO 4 (W := 0) X0 (w12 G) (w13 G) (w14 G) rfl (by decide) (Nat.le_of_eq rfl) (by decide) d4_1 rfl ?_
  intro _ X2
  refine oI 5 X2 d4_4 rfl rfl <| oy 27 X2 d4_5 (by decide) ((if0 _ _).trans (feq (by decide)).2) <| oG 30 X2 (w23 G) Via.refl ((sg5 G).ext X2.old.2) d4_27 rfl ?_
  intro _ X4
  refine on 33 X4 d4_30 rfl ((if0 _ _).trans (feq (hzc G)).1) <| oA 34 X4 d4_33 rfl rfl <| oI 35 X4 d4_34 rfl rfl <| oI 36 X4 d4_35 rfl rfl <| mS 39 0 X4 (rm_au95 G F3 rg_pi1) (u3 G) all0 d4_36 rfl rfl rfl lr (by decide) all0 ?_
  rintro _ _ _ _ X5 ⟨xa1_6, xk1_7, rfl, q8, q9, q10, _⟩ K5 _ C5
  refine oU 41 (l' := #[rr pa1, rr pa2, ii 0, ii 4, .val .null, rr xa1_6]) X5 d4_39 rfl rfl rfl <| oA 42 X5 d4_41 rfl rfl <| oa 44 X5 d4_42 rfl rfl <| oI 45 X5 d4_44 rfl rfl <| mS 48 1 X5 (rm_au96 G q8) (u4 G) all0 d4_45 rfl rfl rfl lr (by decide) all0 ?_
  rintro _ _ _ _ X12 rfl K12 _ C12
  have f13 := (F1.k0 K5).k0 K12
  have f14 := (F0.keep K5).keep K12
  have f16 := C12.safe (own_lt (by omega)) (C5.safe (own_lt (by omega)) sf_pa1)
  refine oP 51 (v' := (.int 0)) X12 (w22 G) Via.refl f13 f14 (Or.inr ⟨(w18 G), rfl, rfl⟩) (w2 G) fd_1 rfl rfl d4_48 rfl (by omega) (Or.inl (by simp)) f16 ?_
  intro _ _ X15 W15 C15
  have := W15.size
  have f17 := f13.same W15
  refine oA 52 X15 d4_51 rfl rfl <| oa 54 X15 d4_52 rfl rfl ?_
  have f18 := ((F2.k0 K5).k0 K12).other W15 (Or.inr (sn1 G))
  have f19 := f14.wr W15
  have f21 := C15.safe (own_lt (by omega)) f16
  refine oP 57 (v' := (.ref xa1_6)) X15 (w21 G) Via.refl f18 f19 (Or.inr ⟨(w17 G), rfl, rfl⟩) (w2 G) fd_0 rfl rfl d4_54 rfl (by omega) (Or.inl (by simp)) f21 ?_
  intro _ _ X20 W20 C20
  have := W20.size
  have f22 := f18.same W20
  have f23 := f19.wr W20
  have f24 := f17.other W20 (Or.inr (sn0 G))
  have f25 := ((q8.k0 K12).oth W15 (by omega)).oth W20 (by omega)
  have f26 := ((q9.keep K12).wr W15).wr W20
  have f27 := C20.safe (own_lt (by omega)) (C15.safe (own_lt (by omega)) (C12.safe (own_lt (by omega)) q10))
  exact oz X20 d4_57 rfl (by decide) (by decide) (fun _ CC => ⟨xa1_6, xk1_7, rfl, f23, f24, f22, f25, f26, (CC.safe (own_lt (by omega)) f27), by omega⟩)
theorem rm_au98 (G : GL l Z a0 zc fmt kpp) (F0 : ex1 Z h0 pa1) (F1 : fd1 Z h0 pa1 (.int 0)) (F2 : fd0 Z h0 pa1 .null) (F3 : av1 Z h0 pa2 pk1 4 [.int 47, .int pi1, .int 47, .int 42]) (rg_pi1 : ¬ pi1 < 0 ∧ ¬ (255 : Int32) < pi1) (ne : NE pa1 pa2 ∧ n0 ≤ pa1) : M3 l Z 3 1 4 52 #[.ref pa1, .ref pa2] h0 n0 [pa1] [pa1] (Q49 Z pa1 pi1 h0) := by
  refine mi B3 ef3 (hEW G) fun s X0 hsf0 n0le => ?_
  have := F0.l
  have := F3.l
  have sf_pa1 := hsf0 pa1 (by simp)
  refine oA 1 X0 d3_0 rfl rfl <| oA 2 X0 d3_1 rfl rfl <| oc 3 (v := 0) X0 d3_2 rfl (by decide) <| oA 4 X0 d3_3 rfl rfl <| oL 5 X0 F3 d3_4 rfl <| o_aconstNull 6 X0 d3_5 rfl <| mP 9 0 X0 (rm_au97 G F0 F1 F2 F3 rg_pi1 (by omega)) (u0 G) (sS (by omega) sf_pa1 all0) d3_6 rfl rfl rfl lr (by decide) (aI (by omega) (by simp) all0) ?_
  rintro _ _ _ _ X1 ⟨xa1_2, xk1_3, rfl, q4, q5, q6, q7, q8, q9, _⟩ _ _ _
  exact oz X1 d3_9 rfl (by decide) (by decide) (fun _ CC => ⟨xa1_2, xk1_3, rfl, q4, q5, q6, q7, q8, (CC.safe (own_lt (by omega)) q9), by omega⟩)
def Q50 (Z : State) (b1 : Addr) (b2 : ClassId) (b3 b4 b5 b6 : Int32) (h0 : Heap) (v : Option Value) (h : Heap) (vm : Vm) : Prop := v = none ∧ av0 Z h b1 b2 16 [.int b3, .int b4, .int b5, .int b6, i0, i0, i0, i0, i0, i0, i0, i0, i0, i0, i0, i0] ∧ ex0 Z h b1
theorem rm_au99 (G : GL l Z a0 zc fmt kpp) (F0 : ex1 Z h0 pa1) (F1 : fd1 Z h0 pa1 (.int 0)) (F2 : fd0 Z h0 pa1 (.ref pa3)) (F3 : av0 Z h0 pa2 pk1 16 [.int pi1, .int pi2, i0, i0, i0, i0, i0, i0, i0, i0, i0, i0, i0, i0, i0, i0]) (F4 : ex0 Z h0 pa2) (F5 : av0 Z h0 pa3 pk2 2 [.int pi3, .int pi4]) (ne : NE pa1 pa2 ∧ NE pa2 pa3 ∧ n0 ≤ pa2) : M18 l Z 1 0 0 40 #[.ref pa1, .ref pa2, .int 2, i0] h0 n0 [pa2] [pa2] (Q50 Z pa2 pk1 pi1 pi2 pi3 pi4 h0) := by
  refine mi B18 ef11 (hEW G) fun s X0 hsf0 n0le => ?_
  have := F0.l
  have := F3.l
  have := F5.l
  have sf_pa2 := hsf0 pa2 (by simp)
  refine oA 1 X0 d18_0 rfl rfl <| mV 4 0 X0 F0 (rm_au9 G F1) (u7 G) all0 d18_1 rfl rfl rfl lr (by decide) all0 ?_
  rintro _ _ _ _ X1 rfl K1 _ C1
  refine oI 5 X1 d18_4 rfl rfl <| oN 8 X1 d18_5 rfl (teq (by decide)).2 <| oA 9 X1 d18_8 rfl rfl ?_
  have f2 := F2.k0 K1
  refine oF 12 X1 (w21 G) Via.refl f2 d18_9 rfl ?_
  intro _ X4
  refine oc 13 (v := 0) X4 d18_12 rfl (by decide) <| oA 14 X4 d18_13 rfl rfl <| oI 15 X4 d18_14 rfl rfl <| oI 16 X4 d18_15 rfl rfl <| o_ishl 17 (v := 2) X4 d18_16 rfl (by decide) <| oA 18 X4 d18_17 rfl rfl <| oF 21 X4 (w21 G) Via.refl f2 d18_18 rfl ?_
  intro _ X6
  have f7 := F5.k0 K1
  refine oL 22 X6 f7 d18_21 rfl ?_
  have f8 := F3.k0 K1
  have f9 := C1.safe (own_lt (by omega)) sf_pa2
  refine o_cp 25 (us := [.int pi3, .int pi4]) (vr := [.int pi1, .int pi2, .int pi3, .int pi4, i0, i0, i0, i0, i0, i0, i0, i0, i0, i0, i0, i0]) (W := 0) X6 (w101 G) (w104 G) (w102 G) (w103 G) f7 f8 (Or.inl ⟨rfl, rfl⟩) (by decide) (by decide) (by decide) (by decide) (by decide) rfl (Nat.le_of_ble_eq_true rfl) rfl d18_22 rfl rfl (by decide) (Nat.le_of_eq rfl) (by decide) (by omega) (Or.inl (by simp)) f9 ?_
  intro _ _ X10 K10 _ V10
  have := K10.1
  refine og 43 X10 d18_25 (by decide) ?_
  have f11 := (F4.keep K1).keep K10
  exact oz X10 d18_43 rfl (by decide) (by decide) (fun _ CC => ⟨rfl, V10, f11⟩)
theorem rm_au100 (G : GL l Z a0 zc fmt kpp) (F0 : ex3 Z h0 pa1) (F1 : fd6 Z h0 pa1 (.int 0)) (F2 : fd5 Z h0 pa1 (.ref pa3)) (F3 : ex1 Z h0 pa2) (F4 : fd1 Z h0 pa2 (.int 0)) (F5 : fd0 Z h0 pa2 (.ref pa4)) (F6 : av0 Z h0 pa3 pk1 16 [.int pi1, .int pi2, i0, i0, i0, i0, i0, i0, i0, i0, i0, i0, i0, i0, i0, i0]) (F7 : ex0 Z h0 pa3) (F8 : av0 Z h0 pa4 pk2 2 [.int pi3, .int pi4]) (ne : NE pa1 pa3 ∧ NE pa2 pa3 ∧ NE pa3 pa4 ∧ n0 ≤ pa3) : M16 l Z 2 0 0 55 #[.ref pa1, .int 2, .ref pa2] h0 n0 [pa3] [pa3] (Q50 Z pa3 pk1 pi1 pi2 pi3 pi4 h0) := by
  refine mi B16 ef10 (hEW G) fun s X0 hsf0 n0le => ?_
  have := F0.l
  have := F3.l
  have := F6.l
  have := F8.l
  have sf_pa3 := hsf0 pa3 (by simp)
  refine oA 1 X0 d16_0 rfl rfl <| oA 2 X0 d16_1 rfl rfl <| mV 5 0 X0 F0 (rm_au12 G F1 F3 F4) (u11 G) all0 d16_2 rfl rfl rfl lr (by decide) all0 ?_
  rintro _ _ _ _ X1 rfl K1 _ C1
  refine oA 6 X1 d16_5 rfl rfl <| oA 7 X1 d16_6 rfl rfl ?_
  have f2 := F2.k0 K1
  refine oF 10 X1 (w54 G) Via.refl f2 d16_7 rfl ?_
  intro _ X4
  refine oI 11 X4 d16_10 rfl rfl <| oA 12 X4 d16_11 rfl rfl ?_
  have f5 := F1.k0 K1
  refine oF 15 X4 (w56 G) Via.refl f5 d16_12 rfl ?_
  intro _ X7
  have f8 := F3.keep K1
  have f9 := F4.k0 K1
  have f10 := F5.k0 K1
  have f11 := F6.k0 K1
  have f12 := F7.keep K1
  have f13 := F8.k0 K1
  have f14 := C1.safe (own_lt (by omega)) sf_pa3
  refine mV 18 0 X7 f8 (rm_au99 G f8 f9 f10 f11 f12 f13 (by omega)) (u12 G) (sS (by omega) f14 all0) d16_15 rfl rfl rfl lr (by decide) (aI (by omega) (by simp) all0) ?_
  rintro _ _ _ _ X15 ⟨rfl, q16, q17⟩ _ _ _
  exact oz X15 d16_18 rfl (by decide) (by decide) (fun _ CC => ⟨rfl, q16, q17⟩)
def Q51 (Z : State) (b1 b2 : Addr) (b3 : ClassId) (b4 b5 b6 b7 : Int32) (h0 : Heap) (v : Option Value) (h : Heap) (vm : Vm) : Prop := v = some (.ref b1) ∧ ex3 Z h b1 ∧ fd6 Z h b1 (.int 0) ∧ fd7 Z h b1 (.int 4) ∧ fd8 Z h b1 (.int 0) ∧ fd5 Z h b1 (.ref b2) ∧ av0 Z h b2 b3 16 [.int b4, .int b5, .int b6, .int b7, i0, i0, i0, i0, i0, i0, i0, i0, i0, i0, i0, i0] ∧ ex0 Z h b2
theorem rm_au101 (G : GL l Z a0 zc fmt kpp) (F0 : ex3 Z h0 pa1) (F1 : fd6 Z h0 pa1 (.int 0)) (F2 : fd7 Z h0 pa1 (.int 2)) (F3 : fd8 Z h0 pa1 (.int 0)) (F4 : fd5 Z h0 pa1 (.ref pa3)) (F5 : ex1 Z h0 pa2) (F6 : fd1 Z h0 pa2 (.int 0)) (F7 : fd0 Z h0 pa2 (.ref pa4)) (F8 : av0 Z h0 pa3 pk1 16 [.int pi1, .int pi2, i0, i0, i0, i0, i0, i0, i0, i0, i0, i0, i0, i0, i0, i0]) (F9 : ex0 Z h0 pa3) (F10 : av0 Z h0 pa4 pk2 2 [.int pi3, .int pi4]) (ne : NE pa1 pa2 ∧ NE pa1 pa3 ∧ NE pa1 pa4 ∧ NE pa2 pa3 ∧ NE pa3 pa4 ∧ n0 ≤ pa1 ∧ n0 ≤ pa3) : M12 l Z 3 0 0 69 #[.ref pa1, .ref pa2] h0 n0 [pa1, pa3] [pa3] (Q51 Z pa1 pa3 pk1 pi1 pi2 pi3 pi4 h0) := by
  refine mi B12 ef8 (hEW G) fun s X0 hsf0 n0le => ?_
  have := F0.l
  have := F5.l
  have := F8.l
  have := F10.l
  have sf_pa3 := hsf0 pa3 (by simp)
  refine oA 1 X0 d12_0 rfl rfl <| ifnonnullYesJ 9 X0 d12_1 (by decide) <| oA 10 X0 d12_9 rfl rfl <| mV 13 0 X0 F5 (rm_au17 G F5 F6 F7 F10) (u8 G) all0 d12_10 rfl rfl rfl lr (by decide) all0 ?_
  rintro _ _ _ _ X1 rfl K1 _ C1
  refine oT 14 (l' := #[rr pa1, rr pa2, ii 2]) X1 d12_13 rfl rfl <| oA 15 X1 d12_14 rfl rfl <| oA 16 X1 d12_15 rfl rfl ?_
  have f2 := F2.k0 K1
  refine oF 19 X1 (w78 G) Via.refl f2 d12_16 rfl ?_
  intro _ X4
  refine oI 20 X4 d12_19 rfl rfl <| o_iadd 21 (v := 4) X4 d12_20 rfl (by decide) ?_
  have f5 := F1.k0 K1
  have f6 := F4.k0 K1
  have f7 := F8.k0 K1
  have f8 := F0.keep K1
  refine mV 24 0 X4 f8 (rm_au11 G f5 f6 f7 (by decide)) (u9 G) all0 d12_21 rfl rfl rfl lr (by decide) all0 ?_
  rintro _ _ _ _ X9 rfl K9 _ C9
  refine oA 25 X9 d12_24 rfl rfl <| oA 26 X9 d12_25 rfl rfl ?_
  have f10 := f2.k0 K9
  refine oF 29 X9 (w78 G) Via.refl f10 d12_26 rfl ?_
  intro _ X12
  refine oA 30 X12 d12_29 rfl rfl ?_
  have f13 := f8.keep K9
  have f14 := f5.k0 K9
  have f15 := f6.k0 K9
  have f16 := (F5.keep K1).keep K9
  have f17 := (F6.k0 K1).k0 K9
  have f18 := (F7.k0 K1).k0 K9
  have f19 := f7.k0 K9
  have f20 := (F9.keep K1).keep K9
  have f21 := (F10.k0 K1).k0 K9
  have f22 := C9.safe (own_lt (by omega)) (C1.safe (own_lt (by omega)) sf_pa3)
  refine mV 33 0 X12 f13 (rm_au100 G f13 f14 f15 f16 f17 f18 f19 f20 f21 (by omega)) (u13 G) (sS (by omega) f22 all0) d12_30 rfl rfl rfl lr (by decide) (aI (by omega) (by simp) all0) ?_
  rintro _ _ _ _ X23 ⟨rfl, q24, q25⟩ K23 _ _
  refine oA 34 X23 d12_33 rfl rfl <| oD 35 X23 d12_34 rfl rfl ?_
  have f26 := f10.k1 K23 (by omega)
  refine oF 38 X23 (w78 G) Via.refl f26 d12_35 rfl ?_
  intro _ X28
  refine oI 39 X28 d12_38 rfl rfl <| o_iadd 40 (v := 4) X28 d12_39 rfl (by decide) ?_
  have f29 := f13.keep K23
  refine oP 43 (v' := (.int 4)) X28 (w78 G) Via.refl f26 f29 (Or.inl (w79 G)) (w41 G) fd_4 rfl rfl d12_40 rfl (by omega) (Or.inl (by simp)) (sx X28 f29 nc1) ?_
  intro _ _ X30 W30 _
  have := W30.size
  have f31 := f26.same W30
  refine oA 44 X30 d12_43 rfl rfl ?_
  have f32 := f29.wr W30
  have f33 := (f14.k1 K23 (by omega)).other W30 (Or.inr (sn8 G))
  have f34 := (((F3.k0 K1).k0 K9).k1 K23 (by omega)).other W30 (Or.inr (sn9 G))
  have f35 := (f15.k1 K23 (by omega)).other W30 (Or.inr (sn10 G))
  have f36 := q24.oth W30 (by omega)
  have f37 := q25.wr W30
  exact oR X30 d12_44 rfl rfl rfl (by decide) (by decide) (fun _ CC => ⟨rfl, f32, f33, f31, f34, f35, f36, f37⟩)
theorem rm_au102 (G : GL l Z a0 zc fmt kpp) (F0 : ex3 Z h0 pa1) (F1 : fd6 Z h0 pa1 (.int 0)) (F2 : fd7 Z h0 pa1 (.int 2)) (F3 : fd8 Z h0 pa1 (.int 0)) (F4 : fd5 Z h0 pa1 (.ref pa3)) (F5 : ex1 Z h0 pa2) (F6 : fd1 Z h0 pa2 (.int 0)) (F7 : fd0 Z h0 pa2 (.ref pa4)) (F8 : av0 Z h0 pa3 pk1 16 [.int pi1, .int pi2, i0, i0, i0, i0, i0, i0, i0, i0, i0, i0, i0, i0, i0, i0]) (F9 : ex0 Z h0 pa3) (F10 : av0 Z h0 pa4 pk2 2 [.int pi101, .int pi102]) (ne : NE pa1 pa2 ∧ NE pa1 pa3 ∧ NE pa1 pa4 ∧ NE pa2 pa3 ∧ NE pa3 pa4 ∧ n0 ≤ pa1 ∧ n0 ≤ pa3) : M11 l Z 4 0 0 83 #[.ref pa1, .ref pa2] h0 n0 [pa1, pa3] [pa3] (Q51 Z pa1 pa3 pk1 pi1 pi2 pi101 pi102 h0) := by
  refine mi B11 ef3 (hEW G) fun s X0 hsf0 n0le => ?_
  have := F0.l
  have := F5.l
  have := F8.l
  have := F10.l
  have sf_pa3 := hsf0 pa3 (by simp)
  refine oA 1 X0 d11_0 rfl rfl <| oA 2 X0 d11_1 rfl rfl <| mU 5 0 X0 F0 (rm_au101 G F0 F1 F2 F3 F4 F5 F6 F7 F8 F9 F10 (by omega)) (u14 G) (sS (by omega) sf_pa3 all0) d11_2 rfl rfl rfl lr (by decide) (aI (by omega) (by simp) (aI (by omega) (by simp) all0)) ?_
  rintro _ _ _ _ X1 ⟨rfl, q2, q3, q4, q5, q6, q7, q8⟩ _ _ _
  refine o_pop 6 X1 d11_5 rfl rfl <| oA 7 X1 d11_6 rfl rfl ?_
  exact oR X1 d11_7 rfl rfl rfl (by decide) (by decide) (fun _ CC => ⟨rfl, q2, q3, q4, q5, q6, q7, q8⟩)
def Q52 (Z : State) (b1 b2 : Int32) (h0 : Heap) (v : Option Value) (h : Heap) (vm : Vm) : Prop := ∃ (xa1 : Addr) (xk1 : ClassId), v = some (.ref xa1) ∧ av0 Z h xa1 xk1 4 [.int b1, .int b2, .int 47, .int 42] ∧ ex0 Z h xa1 ∧ Safe Z EL0 vm h xa1 ∧ h0.size ≤ xa1 ∧ h.size > xa1
theorem rm_au103 (G : GL l Z a0 zc fmt kpp) (F0 : av0 Z h0 pa1 pk1 16 [.int pi1, .int pi2, .int 47, .int 42, i0, i0, i0, i0, i0, i0, i0, i0, i0, i0, i0, i0]) : M27 l Z 1 1 4 40 #[.ref pa1, i0, .int 4] h0 n0 [] [] (Q52 Z pi1 pi2 h0) := by
  refine mi B27 ef13 (hEW G) fun s X0 hsf0 n0le => ?_
  have := F0.l
  refine oI 1 X0 d27_0 rfl rfl <| oI 2 X0 d27_1 rfl rfl <| mS 5 0 X0 (rm_au26 G (by decide)) (u20 G) all0 d27_2 rfl rfl rfl lr (by decide) all0 ?_
  rintro _ _ _ _ X1 rfl K1 _ _
  refine oI 6 X1 d27_5 rfl rfl <| oI 7 X1 d27_6 rfl rfl <| o_isub 8 (v := 4) X1 d27_7 rfl (by decide) <| oT 9 (l' := #[rr pa1, ii 0, ii 4, ii 4, uu]) X1 d27_8 rfl rfl <| oI 10 X1 d27_9 rfl rfl <| nP (aty := .byte) 12 4 X1 (w16 G) d27_10 rfl (by decide) had_byte ?_
  intro _ h2 b2 k2 X2 _ _ E2 V2 A2 _ S2
  have V3 : av0 Z h2 b2 k2 4 [i0, i0, i0, i0] := V2.pad (pad_rep [] (.int (0 : Int32)) 4)
  refine oU 14 (l' := #[rr pa1, ii 0, ii 4, ii 4, rr b2]) X2 d27_12 rfl rfl rfl <| oA 15 X2 d27_14 rfl rfl <| oI 16 X2 d27_15 rfl rfl <| oa 18 X2 d27_16 rfl rfl <| oc 19 (v := 0) X2 d27_18 rfl (by decide) <| oA 20 X2 d27_19 rfl rfl ?_
  have f4 := (F0.k0 K1).ext E2
  refine oL 21 X2 f4 d27_20 rfl <| oI 22 X2 d27_21 rfl rfl <| o_isub 23 (v := 16) X2 d27_22 rfl (by decide) <| oI 24 X2 d27_23 rfl rfl <| mS 27 4 X2 (rm_au27 G (by decide)) (u21 G) all0 d27_24 rfl rfl rfl lr (by decide) all0 ?_
  rintro _ _ _ _ X5 rfl K5 _ C5
  have f6 := f4.k0 K5
  have f7 := V3.k0 K5
  have f8 := C5.safe (own_lt (by omega)) S2
  refine o_cp 30 (us := [.int pi1, .int pi2, .int 47, .int 42]) (vr := [.int pi1, .int pi2, .int 47, .int 42]) (W := 0) X5 (w150 G) (w104 G) (w102 G) (w103 G) f6 f7 (Or.inl ⟨rfl, rfl⟩) (by decide) (by decide) (by decide) (by decide) (by decide) rfl (Nat.le_of_ble_eq_true rfl) rfl d27_27 rfl rfl (by decide) (Nat.le_of_eq rfl) (by decide) (by omega) (Or.inr (by omega)) f8 ?_
  intro _ _ X9 K9 C9 V9
  have := K9.1
  refine oa 32 X9 d27_30 rfl rfl ?_
  have f10 := (A2.keep K5).keep K9
  have f11 := C9.safe (own_lt (by omega)) f8
  exact oR X9 d27_32 rfl rfl rfl (by decide) (by decide) (fun _ CC => ⟨b2, k2, rfl, V9, f10, (CC.safe (own_lt (by omega)) f11), by omega⟩)
theorem rm_au104 (G : GL l Z a0 zc fmt kpp) (F0 : av0 Z h0 pa1 pk1 16 [.int pi1, .int pi2, .int 47, .int 42, i0, i0, i0, i0, i0, i0, i0, i0, i0, i0, i0, i0]) : M26 l Z 2 1 4 56 #[.ref pa1, i0, .int 4] h0 n0 [] [] (Q52 Z pi1 pi2 h0) := by
  refine mi B26 ef0 (hEW G) fun s X0 hsf0 n0le => ?_
  have := F0.l
  refine oI 1 X0 d26_0 rfl rfl <| on 4 X0 d26_1 rfl ((if0 _ _).trans (teq (by decide)).2) <| oI 5 X0 d26_4 rfl rfl <| oA 6 X0 d26_5 rfl rfl <| oL 7 X0 F0 d26_6 rfl <| oN 10 X0 d26_7 rfl (feq (by decide)).1 <| oA 11 X0 d26_10 rfl rfl <| oI 12 X0 d26_11 rfl rfl <| oI 13 X0 d26_12 rfl rfl <| mS 16 0 X0 (rm_au103 G F0) (u22 G) all0 d26_13 rfl rfl rfl lr (by decide) all0 ?_
  rintro _ _ _ _ X1 ⟨xa1_2, xk1_3, rfl, q4, q5, q6, _⟩ _ _ _
  exact oR X1 d26_16 rfl rfl rfl (by decide) (by decide) (fun _ CC => ⟨xa1_2, xk1_3, rfl, q4, q5, (CC.safe (own_lt (by omega)) q6), by omega⟩)
def Q53 (Z : State) (b1 : Addr) (b2 b3 : Int32) (h0 : Heap) (v : Option Value) (h : Heap) (vm : Vm) : Prop := ∃ (xa1 : Addr) (xk1 : ClassId), v = none ∧ ex1 Z h b1 ∧ fd1 Z h b1 (.int 0) ∧ fd0 Z h b1 (.ref xa1) ∧ av0 Z h xa1 xk1 4 [.int b2, .int b3, .int 47, .int 42] ∧ ex0 Z h xa1 ∧ Safe Z EL0 vm h xa1 ∧ h0.size ≤ xa1 ∧ h.size > xa1
theorem rm_au105 (G : GL l Z a0 zc fmt kpp) (F0 : ex1 Z h0 pa1) (F1 : fd1 Z h0 pa1 (.int 0)) (F2 : fd0 Z h0 pa1 .null) (F3 : ex3 Z h0 pa2) (F4 : fd6 Z h0 pa2 (.int 0)) (F5 : fd7 Z h0 pa2 (.int 4)) (F6 : fd5 Z h0 pa2 (.ref pa3)) (F7 : av0 Z h0 pa3 pk1 16 [.int pi1, .int pi2, .int 47, .int 42, i0, i0, i0, i0, i0, i0, i0, i0, i0, i0, i0, i0]) (ne : NE pa1 pa2 ∧ NE pa1 pa3 ∧ n0 ≤ pa1) : M21 l Z 3 1 4 71 #[.ref pa1, .ref pa2, .null] h0 n0 [pa1] [pa1] (Q53 Z pa1 pi1 pi2 h0) := by
  refine mi B21 ef12 (hEW G) fun s X0 hsf0 n0le => ?_
  have := F0.l
  have := F3.l
  have := F7.l
  have sf_pa1 := hsf0 pa1 (by simp)
  refine oA 1 X0 d21_0 rfl rfl <| o_initO 4 (W := 0) X0 (w12 G) (w13 G) (w14 G) rfl (by decide) (Nat.le_of_eq rfl) (by decide) d21_1 rfl ?_
  intro _ X2
  refine oA 5 X2 d21_4 rfl rfl <| mV 8 0 X2 F3 (rm_au22 G F6) (u16 G) all0 d21_5 rfl rfl rfl lr (by decide) all0 ?_
  rintro _ _ _ _ X3 rfl K3 _ C3
  refine oV 9 (l' := #[rr pa1, rr pa2, .val .null, rr pa3, uu]) X3 d21_8 rfl rfl rfl <| oA 10 X3 d21_9 rfl rfl ?_
  have f4 := F3.keep K3
  have f5 := F5.k0 K3
  refine mV 13 0 X3 f4 (rm_au24 G f4 f5) (u18 G) all0 d21_10 rfl rfl rfl lr (by decide) all0 ?_
  rintro _ _ _ _ X6 rfl K6 _ C6
  refine oS 15 (l' := #[rr pa1, rr pa2, .val .null, rr pa3, ii 4]) X6 d21_13 rfl rfl <| oA 16 X6 d21_15 rfl rfl ?_
  have f7 := (F4.k0 K3).k0 K6
  have f8 := f4.keep K6
  refine mV 19 0 X6 f8 (rm_au25 G f7 (by decide)) (u19 G) all0 d21_16 rfl rfl rfl lr (by decide) all0 ?_
  rintro _ _ _ _ X9 rfl K9 _ C9
  refine on 22 X9 d21_19 rfl ((if0 _ _).trans (feq (by decide)).1) <| oA 23 X9 d21_22 rfl rfl <| oc 24 (v := 0) X9 d21_23 rfl (by decide) ?_
  have f10 := ((F1.k0 K3).k0 K6).k0 K9
  have f11 := ((F0.keep K3).keep K6).keep K9
  have f13 := C9.safe (own_lt (by omega)) (C6.safe (own_lt (by omega)) (C3.safe (own_lt (by omega)) sf_pa1))
  refine oP 27 (v' := (.int 0)) X9 (w22 G) Via.refl f10 f11 (Or.inr ⟨(w18 G), rfl, rfl⟩) (w2 G) fd_1 rfl rfl d21_24 rfl (by omega) (Or.inl (by simp)) f13 ?_
  intro _ _ X12 W12 C12
  have := W12.size
  have f14 := f10.same W12
  refine oA 28 X12 d21_27 rfl rfl <| oA 29 X12 d21_28 rfl rfl <| oc 30 (v := 0) X12 d21_29 rfl (by decide) <| oi 32 X12 d21_30 rfl rfl ?_
  have f15 := (((F7.k0 K3).k0 K6).k0 K9).oth W12 (by omega)
  refine mS 35 1 X12 (rm_au104 G f15) (u23 G) all0 d21_32 rfl rfl rfl lr (by decide) all0 ?_
  rintro _ _ _ _ X16 ⟨xa1_17, xk1_18, rfl, q19, q20, q21, _⟩ K16 _ C16
  have f23 := ((((F2.k0 K3).k0 K6).k0 K9).other W12 (Or.inr (sn1 G))).k0 K16
  have f24 := (f11.wr W12).keep K16
  have f26 := C16.safe (own_lt (by omega)) (C12.safe (own_lt (by omega)) f13)
  refine oP 38 (v' := (.ref xa1_17)) X16 (w21 G) Via.refl f23 f24 (Or.inr ⟨(w17 G), rfl, rfl⟩) (w2 G) fd_0 rfl rfl d21_35 rfl (by omega) (Or.inl (by simp)) f26 ?_
  intro _ _ X25 W25 C25
  have := W25.size
  have f27 := f23.same W25
  refine og 97 X25 d21_38 (by decide) ?_
  have f28 := f24.wr W25
  have f29 := (f14.k0 K16).other W25 (Or.inr (sn0 G))
  have f30 := q19.oth W25 (by omega)
  have f31 := q20.wr W25
  have f32 := C25.safe (own_lt (by omega)) q21
  exact oz X25 d21_97 rfl (by decide) (by decide) (fun _ CC => ⟨xa1_17, xk1_18, rfl, f28, f29, f27, f30, f31, (CC.safe (own_lt (by omega)) f32), by omega⟩)
theorem rm_au106 (G : GL l Z a0 zc fmt kpp) (F0 : ex1 Z h0 pa1) (F1 : fd1 Z h0 pa1 (.int 0)) (F2 : fd0 Z h0 pa1 .null) (F3 : ex3 Z h0 pa2) (F4 : fd6 Z h0 pa2 (.int 0)) (F5 : fd7 Z h0 pa2 (.int 4)) (F6 : fd5 Z h0 pa2 (.ref pa3)) (F7 : av0 Z h0 pa3 pk1 16 [.int pi1, .int pi2, .int 47, .int 42, i0, i0, i0, i0, i0, i0, i0, i0, i0, i0, i0, i0]) (ne : NE pa1 pa2 ∧ NE pa1 pa3 ∧ n0 ≤ pa1) : M20 l Z 4 1 4 87 #[.ref pa1, .ref pa2] h0 n0 [pa1] [pa1] (Q53 Z pa1 pi1 pi2 h0) := by
  refine mi B20 ef3 (hEW G) fun s X0 hsf0 n0le => ?_
  have := F0.l
  have := F3.l
  have := F7.l
  have sf_pa1 := hsf0 pa1 (by simp)
  refine oA 1 X0 d20_0 rfl rfl <| oA 2 X0 d20_1 rfl rfl <| o_aconstNull 3 X0 d20_2 rfl <| mP 6 0 X0 (rm_au105 G F0 F1 F2 F3 F4 F5 F6 F7 (by omega)) (u24 G) (sS (by omega) sf_pa1 all0) d20_3 rfl rfl rfl lr (by decide) (aI (by omega) (by simp) all0) ?_
  rintro _ _ _ _ X1 ⟨xa1_2, xk1_3, rfl, q4, q5, q6, q7, q8, q9, _⟩ _ _ _
  exact oz X1 d20_6 rfl (by decide) (by decide) (fun _ CC => ⟨xa1_2, xk1_3, rfl, q4, q5, q6, q7, q8, (CC.safe (own_lt (by omega)) q9), by omega⟩)
def Q54 (Z : State) (b1 b2 : Int32) (h0 : Heap) (v : Option Value) (h : Heap) (vm : Vm) : Prop := ∃ (xa1 : Addr) (xa2 : Addr) (xk1 : ClassId), v = some (.ref xa1) ∧ ex1 Z h xa1 ∧ fd1 Z h xa1 (.int 0) ∧ fd0 Z h xa1 (.ref xa2) ∧ Safe Z EL0 vm h xa1 ∧ av0 Z h xa2 xk1 4 [.int b1, .int b2, .int 47, .int 42] ∧ ex0 Z h xa2 ∧ Safe Z EL0 vm h xa2 ∧ h0.size ≤ xa1 ∧ h.size > xa1 ∧ h0.size ≤ xa2 ∧ h.size > xa2 ∧ NE xa1 xa2
theorem rm_au107 (G : GL l Z a0 zc fmt kpp) (F0 : ex3 Z h0 pa1) (F1 : fd6 Z h0 pa1 (.int 0)) (F2 : fd7 Z h0 pa1 (.int 4)) (F3 : fd5 Z h0 pa1 (.ref pa2)) (F4 : av0 Z h0 pa2 pk1 16 [.int pi1, .int pi2, .int 47, .int 42, i0, i0, i0, i0, i0, i0, i0, i0, i0, i0, i0, i0]) : M19 l Z 5 2 8 101 #[.ref pa1] h0 n0 [] [] (Q54 Z pi1 pi2 h0) := by
  refine mi B19 ef7 (hEW G) fun s X0 hsf0 n0le => ?_
  have l1 := F0.l
  have := F4.l
  refine o_new 3 X0 (w111 G) (w2 G) (w3 G) d19_0 rfl (by decide) (by decide) ?_
  intro _ h1 b1 X1 _ l1 E1 A1 D1 _ _ S1
  have f2 : fd0 Z h1 b1 .null := D1 (Or.inr (w17 G)) fd_0
  have f3 : fd1 Z h1 b1 (.int 0) := D1 (Or.inr (w18 G)) fd_1
  refine oD 4 X1 d19_3 rfl rfl <| oA 5 X1 d19_4 rfl rfl ?_
  have f4 := F0.ext E1
  have f5 := F1.ext E1
  have f6 := F2.ext E1
  have f7 := F3.ext E1
  have f8 := F4.ext E1
  refine mP 8 1 X1 (rm_au106 G A1 f3 f2 f4 f5 f6 f7 f8 (by omega)) (u25 G) (sS (by omega) S1 all0) d19_5 rfl rfl rfl lr (by decide) (aR (by omega) all0) ?_
  rintro _ _ _ _ X9 ⟨xa1_10, xk1_11, rfl, q12, q13, q14, q15, q16, q17, _⟩ _ _ C9
  have f19 := C9.safe (own_lt (by omega)) S1
  exact oR X9 d19_8 rfl rfl rfl (by decide) (by decide) (fun _ CC => ⟨b1, xa1_10, xk1_11, rfl, q12, q13, q14, (CC.safe (own_lt (by omega)) f19), q15, q16, (CC.safe (own_lt (by omega)) q17), by omega⟩)
def Q55 (Z : State) (b1 b2 : Addr) (b3 b4 : Int32) (h0 : Heap) (v : Option Value) (h : Heap) (vm : Vm) : Prop := ∃ (xa1 : Addr) (xa2 : Addr) (xa3 : Addr) (xk1 : ClassId), v = some (.ref xa1) ∧ ex4 Z h xa1 ∧ fd3 Z h xa1 (.ref b1) ∧ fd2 Z h xa1 (.ref xa2) ∧ fd4 Z h xa1 (.ref b2) ∧ ex1 Z h xa2 ∧ fd1 Z h xa2 (.int 0) ∧ fd0 Z h xa2 (.ref xa3) ∧ Safe Z EL0 vm h xa2 ∧ av0 Z h xa3 xk1 4 [.int b3, .int b4, .int 47, .int 42] ∧ ex0 Z h xa3 ∧ Safe Z EL0 vm h xa3 ∧ h0.size ≤ xa1 ∧ h.size > xa1 ∧ h0.size ≤ xa2 ∧ h.size > xa2 ∧ NE xa1 xa2 ∧ h0.size ≤ xa3 ∧ h.size > xa3 ∧ NE xa1 xa3 ∧ NE xa2 xa3
theorem rm_au108 (G : GL l Z a0 zc fmt kpp) (F0 : ex1 Z h0 pa1) (F1 : fd1 Z h0 pa1 (.int 0)) (F2 : fd0 Z h0 pa1 (.ref pa2)) (F3 : av0 Z h0 pa2 pk1 2 [.int pi100, .int pi1]) (F4 : ex0 Z h0 pa2) : M8 l Z 6 7 43 115 #[.ref pa1] h0 n0 [] [] (Q55 Z kpp pa1 pi100 pi1 h0) := by
  have hw := G.1
  refine mi B8 ef7 (hEW G) fun s X0 hsf0 n0le => ?_
  have l1 := F0.l
  have := F3.l
  refine o_new 3 X0 (w38 G) (w39 G) (w36 G) d8_0 rfl (by decide) (by decide) ?_
  intro _ h1 b1 X1 _ l1 E1 A1 D1 _ _ _
  have f2 : fd2 Z h1 b1 .null := D1 (Or.inr (w159 G)) fd_2
  have f3 : fd3 Z h1 b1 .null := D1 (Or.inr (w161 G)) fd_3
  have f4 : fd4 Z h1 b1 .null := D1 (Or.inr (w163 G)) fd_2
  refine oD 4 X1 d8_3 rfl rfl <| o_new 7 X1 (w40 G) (w41 G) (w42 G) d8_4 rfl (by decide) (by decide) ?_
  intro _ h5 b5 X5 _ _ E5 A5 D5 _ _ _
  have f6 : fd5 Z h5 b5 .null := D5 (Or.inl (w55 G)) fd_0
  have f7 : fd6 Z h5 b5 (.int 0) := D5 (Or.inl (w57 G)) fd_1
  have f8 : fd7 Z h5 b5 (.int 0) := D5 (Or.inl (w79 G)) fd_4
  have f9 : fd8 Z h5 b5 (.int 0) := D5 (Or.inl (w238 G)) fd_5
  refine oD 8 X5 d8_7 rfl rfl <| mP 11 3 X5 (rm_au8 G A5 f7 f8 f9 f6 (by omega)) (u6 G) all0 d8_8 rfl rfl rfl lr (by decide) (aR (by omega) all0) ?_
  rintro _ _ _ _ X10 ⟨xa1_11, _, rfl, q13, q14, q15, q16, q17, q18, q19, q20, _⟩ K10 _ _
  refine oA 12 X10 d8_11 rfl rfl ?_
  have f22 := ((F0.ext E1).ext E5).keep K10
  have f23 := ((F1.ext E1).ext E5).k1 K10 (by omega)
  have f24 := ((F2.ext E1).ext E5).k1 K10 (by omega)
  have f25 := ((F3.ext E1).ext E5).k1 K10 (by omega)
  refine mV 15 2 X10 q13 (rm_au21 G q13 q14 q15 q16 q17 f22 f23 f24 q18 q19 f25 (by omega)) (u15 G) (sS (by omega) q20 all0) d8_12 rfl rfl rfl lr (by decide) (aR (by omega) (aR (by omega) all0)) ?_
  rintro _ _ _ _ X26 ⟨rfl, q27, q28, q29, q30, q31, q32, q33⟩ K26 _ C26
  refine o_ldcC 17 (n := 8) (vs := own_bs ([47, 42] : List Int32)) (z := (2 : Int32)) X26 (w105 G) (hws_str hw) (by decide) ⟨by decide, rfl⟩ (by decide) (by decide) d8_15 rfl (by decide) (by decide) (by decide) (by decide) ?_
  intro a34 b34 kb34 _ h34 _ X34 E34 C34 Es34 Cs34 Vs34 As34 SF34
  have lta34 : h34.size > a34 := Es34.lt
  have ltb34 : h34.size > b34 := As34.lt
  have := E34.1
  have Bs34 : av0 Z h34 b34 kb34 2 [.int 47, .int 42] := As34
  have f36 := (((A1.ext E5).keep K10).keep K26).ext E34
  have := own_nes (SF34 b1 (sx X34 f36 nc2))
  have f38 := q27.ext E34
  have := own_nes (SF34 b5 (sx X34 f38 nc1))
  have f40 := C34.safe (own_lt (by omega)) (C26.safe (own_lt (by omega)) q20)
  have := own_nes (SF34 xa1_11 f40)
  have f41 := q28.ext E34
  have f42 := q29.ext E34
  have f43 := q30.ext E34
  have f44 := q31.ext E34
  have f45 := q32.ext E34
  have f46 := q33.ext E34
  refine mV 20 2 X34 f38 (rm_au102 G f38 f41 f42 f43 f44 Es34 Cs34 Vs34 f45 f46 Bs34 (by omega)) (u15 G) (sS (by omega) f40 all0) d8_17 rfl rfl rfl lr (by decide) (aR (by omega) (aR (by omega) all0)) ?_
  rintro _ _ _ _ X47 ⟨rfl, q48, q49, q50, _, q52, q53, _⟩ K47 _ _
  refine mV 23 2 X47 q48 (rm_au107 G q48 q49 q50 q52 q53) (u26 G) all0 d8_20 rfl rfl rfl lr (by decide) all0 ?_
  rintro _ _ _ _ X55 ⟨xa1_56, xa2_57, xk1_58, rfl, q59, q60, q61, q62, q63, q64, q65, _⟩ K55 _ _
  refine oG 26 X55 (w151 G) Via.refl ((sg1 G).ext X55.old.2) d8_23 rfl ?_
  intro _ X68
  refine oA 27 X68 d8_26 rfl rfl ?_
  have f69 := (f36.keep K47).keep K55
  have f70 := (((((f3.ext E5).k1 K10 (by omega)).k2 K26 (by omega)).ext E34).k2 K47 (by omega)).k0 K55
  have f71 := (((((f2.ext E5).k1 K10 (by omega)).k2 K26 (by omega)).ext E34).k2 K47 (by omega)).k0 K55
  have f72 := (((((f4.ext E5).k1 K10 (by omega)).k2 K26 (by omega)).ext E34).k2 K47 (by omega)).k0 K55
  refine mP 30 1 X68 (rm_au33 G f69 f70 f71 f72 (by omega)) (u27 G) all0 d8_27 rfl rfl rfl lr (by decide) (aR (by omega) all0) ?_
  rintro _ _ _ _ X73 ⟨rfl, q74, q75, q76, q77⟩ K73 _ C73
  have f78 := q59.keep K73
  have f79 := q60.k1 K73 (by omega)
  have f80 := q61.k1 K73 (by omega)
  have f81 := C73.safe (own_lt (by omega)) q62
  have f82 := q63.k1 K73 (by omega)
  have f83 := q64.keep K73
  have f84 := C73.safe (own_lt (by omega)) q65
  exact oR X73 d8_30 rfl rfl rfl (by decide) (by decide) (fun _ CC => ⟨b1, xa1_56, xa2_57, xk1_58, rfl, q74, q75, q76, q77, f78, f79, f80, (CC.safe (own_lt (by omega)) f81), f82, f83, (CC.safe (own_lt (by omega)) f84), by omega⟩)
theorem rm_au109 (G : GL l Z a0 zc fmt kpp) (F0 : av0 Z h0 pa1 pk1 4 [.int pi1, .int pi2, .int pi3, .int pi4]) (F1 : av0 Z h0 pa2 pk2 4 [.int pi5, .int pi2, .int pi6, .int pi7]) (pc_0 : pi1 = pi5) (pc_1 : pi3 = pi6) (pc_2 : pi4 = pi7) : M33 l Z 0 0 0 0 #[.ref pa1, .ref pa2] h0 n0 [] [] (Q16 Z  h0) := by
  refine mi B33 ef8 (hEW G) fun s X0 hsf0 n0le => ?_
  have := F0.l
  have := F1.l
  refine oA 1 X0 d33_0 rfl rfl <| oL 2 X0 F0 d33_1 rfl <| oA 3 X0 d33_2 rfl rfl <| oL 4 X0 F1 d33_3 rfl <| oN 7 X0 d33_4 rfl (teq (by decide)).2 <| oc 8 (v := 0) X0 d33_7 rfl (by decide) <| oT 9 (l' := #[rr pa1, rr pa2, ii 0]) X0 d33_8 rfl rfl <| oI 10 X0 d33_9 rfl rfl <| oA 11 X0 d33_10 rfl rfl <| oL 12 X0 F0 d33_11 rfl <| oN 15 X0 d33_12 rfl (tlt (by decide)).2.1 <| oA 16 X0 d33_15 rfl rfl ?_
  refine oI 17 X0 d33_16 rfl rfl <| oB 18 (v := (.int pi1)) X0 F0 ⟨by decide, by decide⟩ rfl d33_17 rfl <| oA 19 X0 d33_18 rfl rfl <| oI 20 X0 d33_19 rfl rfl <| oB 21 (v := (.int pi5)) X0 F1 ⟨by decide, by decide⟩ rfl d33_20 rfl <| oY 26 X0 d33_21 (by decide) (teq pc_0).1 <| oJ 29 1 #[rr pa1, rr pa2, ii 1] X0 d33_26 rfl rfl (by decide) rfl <| og 9 X0 d33_29 (by decide) <| oI 10 X0 d33_9 rfl rfl <| oA 11 X0 d33_10 rfl rfl <| oL 12 X0 F0 d33_11 rfl <| oN 15 X0 d33_12 rfl (tlt (by decide)).2.1 ?_
  refine oA 16 X0 d33_15 rfl rfl <| oI 17 X0 d33_16 rfl rfl <| oB 18 (v := (.int pi2)) X0 F0 ⟨by decide, by decide⟩ rfl d33_17 rfl <| oA 19 X0 d33_18 rfl rfl <| oI 20 X0 d33_19 rfl rfl <| oB 21 (v := (.int pi2)) X0 F1 ⟨by decide, by decide⟩ rfl d33_20 rfl <| oY 26 X0 d33_21 (by decide) (teq rfl).1 <| oJ 29 2 #[rr pa1, rr pa2, ii 2] X0 d33_26 rfl rfl (by decide) rfl <| og 9 X0 d33_29 (by decide) <| oI 10 X0 d33_9 rfl rfl <| oA 11 X0 d33_10 rfl rfl <| oL 12 X0 F0 d33_11 rfl ?_
  refine oN 15 X0 d33_12 rfl (tlt (by decide)).2.1 <| oA 16 X0 d33_15 rfl rfl <| oI 17 X0 d33_16 rfl rfl <| oB 18 (v := (.int pi3)) X0 F0 ⟨by decide, by decide⟩ rfl d33_17 rfl <| oA 19 X0 d33_18 rfl rfl <| oI 20 X0 d33_19 rfl rfl <| oB 21 (v := (.int pi6)) X0 F1 ⟨by decide, by decide⟩ rfl d33_20 rfl <| oY 26 X0 d33_21 (by decide) (teq pc_1).1 <| oJ 29 3 #[rr pa1, rr pa2, ii 3] X0 d33_26 rfl rfl (by decide) rfl <| og 9 X0 d33_29 (by decide) <| oI 10 X0 d33_9 rfl rfl <| oA 11 X0 d33_10 rfl rfl ?_
  refine oL 12 X0 F0 d33_11 rfl <| oN 15 X0 d33_12 rfl (tlt (by decide)).2.1 <| oA 16 X0 d33_15 rfl rfl <| oI 17 X0 d33_16 rfl rfl <| oB 18 (v := (.int pi4)) X0 F0 ⟨by decide, by decide⟩ rfl d33_17 rfl <| oA 19 X0 d33_18 rfl rfl <| oI 20 X0 d33_19 rfl rfl <| oB 21 (v := (.int pi7)) X0 F1 ⟨by decide, by decide⟩ rfl d33_20 rfl <| oY 26 X0 d33_21 (by decide) (teq pc_2).1 <| oJ 29 4 #[rr pa1, rr pa2, ii 4] X0 d33_26 rfl rfl (by decide) rfl <| og 9 X0 d33_29 (by decide) <| oI 10 X0 d33_9 rfl rfl ?_
  refine oA 11 X0 d33_10 rfl rfl <| oL 12 X0 F0 d33_11 rfl <| oY 32 X0 d33_12 (by decide) (flt (by decide)).2.1 <| oc 33 (v := 1) X0 d33_32 rfl (by decide) ?_
  exact o_nret (y := (1 : Int32)) (t := .boolean) X0 d33_33 rfl (by decide) (by simp) (by decide) (by decide) (fun _ CC => rfl)
theorem rm_au110 (G : GL l Z a0 zc fmt kpp) (F0 : fd1 Z h0 pa1 (.int pi100)) (F1 : fd0 Z h0 pa1 (.ref pa3)) (F2 : ex1 Z h0 pa2) (F3 : fd1 Z h0 pa2 (.int pi101)) (F4 : fd0 Z h0 pa2 (.ref pa4)) (F5 : av0 Z h0 pa3 pk1 4 [.int pi102, .int pi1, .int pi103, .int pi104]) (F6 : av0 Z h0 pa4 pk2 4 [.int pi105, .int pi1, .int pi106, .int pi107]) (pc_0 : pi100 = pi101) (pc_1 : pi102 = pi105) (pc_2 : pi103 = pi106) (pc_3 : pi104 = pi107) (ne : NE pa1 pa2) : M32 l Z 1 0 0 14 #[.ref pa1, .ref pa2] h0 n0 [] [] (Q16 Z  h0) := by
  refine mi B32 ef8 (hEW G) fun s X0 hsf0 n0le => ?_
  have := F0.l
  have := F2.l
  have := F5.l
  have := F6.l
  refine oA 1 X0 d32_0 rfl rfl <| oA 2 X0 d32_1 rfl rfl <| o_acmp 7 (same := false) X0 d32_2 rfl rfl (decide_eq_false (fun q => absurd (Value.ref.inj q) (own_ne (by omega)))) (by decide) (by decide) <| oA 8 X0 d32_7 rfl rfl <| o_instY 11 X0 (w174 G) (Ins.self F2) d32_8 rfl ?_
  intro _ X2
  refine on 14 X2 d32_11 rfl ((if0 _ _).trans (feq (by decide)).1) <| oA 15 X2 d32_14 rfl rfl <| o_castY 18 X2 (w174 G) (Ins.self F2) d32_15 rfl ?_
  intro _ X4
  refine oV 19 (l' := #[rr pa1, rr pa2, rr pa2]) X4 d32_18 rfl rfl rfl <| oG 22 X4 (w23 G) Via.refl ((sg5 G).ext X4.old.2) d32_19 rfl ?_
  intro _ X6
  refine on 25 X6 d32_22 rfl ((if0 _ _).trans (feq (hzc G)).1) <| oA 26 X6 d32_25 rfl rfl <| oF 29 X6 (w22 G) Via.refl F0 d32_26 rfl ?_
  intro _ X8
  refine oA 30 X8 d32_29 rfl rfl <| oF 33 X8 (w22 G) Via.refl F3 d32_30 rfl ?_
  intro _ X10
  refine oN 36 X10 d32_33 rfl (teq pc_0).2 <| oA 37 X10 d32_36 rfl rfl <| oF 40 X10 (w21 G) Via.refl F1 d32_37 rfl ?_
  intro _ X12
  refine oA 41 X12 d32_40 rfl rfl <| oF 44 X12 (w21 G) Via.refl F4 d32_41 rfl ?_
  intro _ X14
  refine mS 47 0 X14 (rm_au109 G F5 F6 pc_1 pc_2 pc_3) (u30 G) all0 d32_44 rfl rfl rfl lr (by decide) all0 ?_
  rintro _ _ _ _ X15 rfl _ _ _
  refine on 50 X15 d32_47 rfl ((if0 _ _).trans (feq (by decide)).1) <| oc 51 (v := 1) X15 d32_50 rfl (by decide) <| og 55 X15 d32_51 (by decide) ?_
  exact o_nret (y := (1 : Int32)) (t := .boolean) X15 d32_55 rfl (by decide) (by simp) (by decide) (by decide) (fun _ CC => rfl)
def Q56 (Z : State) (b1 : Addr) (b2 : ClassId) (h0 : Heap) (v : Option Value) (h : Heap) (vm : Vm) : Prop := v = some (.int 1) ∧ av0 Z h b1 b2 3 [.int 47, i0, i0] ∧ ex0 Z h b1
theorem rm_au111 (G : GL l Z a0 zc fmt kpp) (F0 : av1 Z h0 pa1 pk1 3 [.int 47, .int pi1, .int pi2]) (F1 : av0 Z h0 pa2 pk2 3 [i0, i0, i0]) (F2 : ex0 Z h0 pa2) (bg_pi1 : (255 : Int32) < pi1 ∧ ¬ (65535 : Int32) < pi1) (ne : NE pa1 pa2 ∧ n0 ≤ pa2) : M6 l Z 0 0 0 0 #[.ref pa1, i0, .ref pa2, i0, .int 3] h0 n0 [pa2] [pa2] (Q56 Z pa2 pk2 h0) := by
  refine mi B6 ef6 (hEW G) fun s X0 hsf0 n0le => ?_
  have := F0.l
  have := F1.l
  have sf_pa2 := hsf0 pa2 (by simp)
  refine oc 1 (v := 0) X0 d6_0 rfl (by decide) <| oS 3 (l' := #[rr pa1, ii 0, rr pa2, ii 0, ii 3, ii 0, uu]) X0 d6_1 rfl rfl <| oi 5 X0 d6_3 rfl rfl <| oi 7 X0 d6_5 rfl rfl <| oN 10 X0 d6_7 rfl (tlt (by decide)).2.1 <| oA 11 X0 d6_10 rfl rfl <| oI 12 X0 d6_11 rfl rfl <| oC 13 (v := (.int 47)) X0 F0 ⟨by decide, by decide⟩ rfl d6_12 rfl <| oS 15 (l' := #[rr pa1, ii 0, rr pa2, ii 0, ii 3, ii 0, ii 47]) X0 d6_13 rfl rfl <| oi 17 X0 d6_15 rfl rfl <| o_sipush 20 (v := 255) X0 d6_17 rfl (by decide) <| oY 26 X0 d6_20 (by decide) (flt (by decide)).2.2.2 ?_
  refine oA 27 X0 d6_26 rfl rfl <| oI 28 X0 d6_27 rfl rfl <| oi 30 X0 d6_28 rfl rfl <| o_i2b 31 (v := 47) X0 d6_30 rfl (by decide) <| sB 32 0 47 X0 F1 (by decide) (lb rfl) (by decide) d6_31 rfl (by omega) (Or.inl (by simp)) sf_pa2 ?_
  rintro _ _ X1 ⟨_, _, W1⟩ _ V1
  have := W1.size
  have V2 := V1.as [.int 47, i0, i0] rfl
  refine oJ 35 1 #[rr pa1, ii 1, rr pa2, ii 0, ii 3, ii 0, ii 47] X1 d6_32 rfl rfl (by decide) rfl <| oJ 38 1 #[rr pa1, ii 1, rr pa2, ii 1, ii 3, ii 0, ii 47] X1 d6_35 rfl rfl (by decide) rfl <| oJ 41 1 #[rr pa1, ii 1, rr pa2, ii 1, ii 3, ii 1, ii 47] X1 d6_38 rfl rfl (by decide) rfl <| og 3 X1 d6_41 (by decide) <| oi 5 X1 d6_3 rfl rfl <| oi 7 X1 d6_5 rfl rfl <| oN 10 X1 d6_7 rfl (tlt (by decide)).2.1 <| oA 11 X1 d6_10 rfl rfl <| oI 12 X1 d6_11 rfl rfl ?_
  have f3 := F0.oth W1 (by omega)
  refine oC 13 (v := (.int pi1)) X1 f3 ⟨by decide, by decide⟩ rfl d6_12 rfl <| oS 15 (l' := #[rr pa1, ii 1, rr pa2, ii 1, ii 3, ii 1, ii pi1]) X1 d6_13 rfl rfl <| oi 17 X1 d6_15 rfl rfl <| o_sipush 20 (v := 255) X1 d6_17 rfl (by decide) <| oN 23 X1 d6_20 rfl (tlt bg_pi1.1).2.2.2 <| oi 25 X1 d6_23 rfl rfl ?_
  have f4 := F2.wr W1
  exact o_iret X1 d6_25 rfl (by decide) (by decide) (fun _ CC => ⟨rfl, V2, f4⟩)
def Q57 (Z : State) (h0 : Heap) (v : Option Value) (h : Heap) (vm : Vm) : Prop := v = some (.int 6)
theorem rm_au112 (G : GL l Z a0 zc fmt kpp)  : M38 l Z 0 0 0 0 #[.int 3] h0 n0 [] [] (Q57 Z  h0) := by
  refine mi B38 ef16 (hEW G) fun s X0 hsf0 n0le => ?_
  refine oI 1 X0 d38_0 rfl rfl <| oy 12 X0 d38_1 (by decide) ((if0 _ _).trans (flt (by decide)).2.1) <| oI 13 X0 d38_12 rfl rfl <| o_ldcI 15 (v := (1073741823 : Int32)) X0 (w199 G) d38_13 rfl <| oY 55 X0 d38_15 (by decide) (tlt (by decide)).1 <| oI 56 X0 d38_55 rfl rfl <| oc 57 (v := 1) X0 d38_56 rfl (by decide) <| o_ishl 58 (v := 6) X0 d38_57 rfl (by decide) ?_
  exact o_iret X0 d38_58 rfl (by decide) (by decide) (fun _ CC => rfl)
def Q58 (Z : State) (h0 : Heap) (v : Option Value) (h : Heap) (vm : Vm) : Prop := ∃ (xa1 : Addr) (xk1 : ClassId), v = some (.ref xa1) ∧ av0 Z h xa1 xk1 6 [i0, i0, i0, i0, i0, i0] ∧ ex0 Z h xa1 ∧ Safe Z EL0 vm h xa1 ∧ h0.size ≤ xa1 ∧ h.size > xa1
theorem rm_au113 (G : GL l Z a0 zc fmt kpp)  : M37 l Z 1 1 6 12 #[.int 3] h0 n0 [] [] (Q58 Z  h0) := by
  refine mi B37 ef16 (hEW G) fun s X0 hsf0 n0le => ?_
  refine oI 1 X0 d37_0 rfl rfl <| mS 4 0 X0 (rm_au112 G ) (u34 G) all0 d37_1 rfl rfl rfl lr (by decide) all0 ?_
  rintro _ _ _ _ X1 rfl _ _ _
  refine nP (aty := .byte) 6 6 X1 (w16 G) d37_4 rfl (by decide) had_byte ?_
  intro _ h2 b2 k2 X2 _ _ _ V2 A2 _ S2
  have V3 : av0 Z h2 b2 k2 6 [i0, i0, i0, i0, i0, i0] := V2.pad (pad_rep [] (.int (0 : Int32)) 6)
  exact oR X2 d37_6 rfl rfl rfl (by decide) (by decide) (fun _ CC => ⟨b2, k2, rfl, V3, A2, (CC.safe (own_lt (by omega)) S2), by omega⟩)
def Q59 (Z : State) (b1 b2 : Int32) (h0 : Heap) (v : Option Value) (h : Heap) (vm : Vm) : Prop := ∃ (xa1 : Addr) (xk1 : ClassId), v = some (.ref xa1) ∧ av0 Z h xa1 xk1 6 [.int 47, i0, .int ((b1 >>> ((0 : Int32) &&& 31)).toInt8.toInt32), .int ((b1 >>> ((8 : Int32) &&& 31)).toInt8.toInt32), .int ((b2 >>> ((0 : Int32) &&& 31)).toInt8.toInt32), .int ((b2 >>> ((8 : Int32) &&& 31)).toInt8.toInt32)] ∧ ex0 Z h xa1 ∧ Safe Z EL0 vm h xa1 ∧ h0.size ≤ xa1 ∧ h.size > xa1
theorem rm_au114 (G : GL l Z a0 zc fmt kpp) (F0 : av1 Z h0 pa1 pk1 3 [.int 47, .int pi1, .int pi2]) (bg_pi1 : (255 : Int32) < pi1 ∧ ¬ (65535 : Int32) < pi1) : M36 l Z 2 1 6 24 #[.ref pa1, i0, .int 3] h0 n0 [] [] (Q59 Z pi1 pi2 h0) := by
  refine mi B36 ef13 (hEW G) fun s X0 hsf0 n0le => ?_
  have := F0.l
  refine oI 1 X0 d36_0 rfl rfl <| mS 4 0 X0 (rm_au113 G ) (u35 G) all0 d36_1 rfl rfl rfl lr (by decide) all0 ?_
  rintro _ _ _ _ X1 ⟨xa1_2, xk1_3, rfl, q4, q5, q6, _⟩ K1 _ _
  refine oV 5 (l' := #[rr pa1, ii 0, ii 3, rr xa1_2, uu]) X1 d36_4 rfl rfl rfl <| oc 6 (v := 0) X1 d36_5 rfl (by decide) <| oS 8 (l' := #[rr pa1, ii 0, ii 3, rr xa1_2, ii 0]) X1 d36_6 rfl rfl <| oi 10 X1 d36_8 rfl rfl <| oI 11 X1 d36_10 rfl rfl <| oN 14 X1 d36_11 rfl (tlt (by decide)).2.1 <| oA 15 X1 d36_14 rfl rfl <| oi 17 X1 d36_15 rfl rfl <| oA 18 X1 d36_17 rfl rfl <| oI 19 X1 d36_18 rfl rfl ?_
  have f8 := F0.k0 K1
  refine oC 20 (v := (.int 47)) X1 f8 ⟨by decide, by decide⟩ rfl d36_19 rfl <| mS 23 0 X1 (rm_putChar G q5 q4 ⟨by decide, by decide⟩ ⟨by decide, by decide⟩ (Nat.le_of_ble_eq_true rfl) (Nat.le_of_ble_eq_true rfl) (by omega)) (u36 G) (sS (by omega) q6 all0) d36_20 rfl rfl rfl lr (by decide) (aR (by omega) all0) ?_
  rintro _ _ _ _ X9 ⟨rfl, q10, q11⟩ K9 _ C9
  have V12 := q11.as [.int 47, i0, i0, i0, i0, i0] rfl
  refine oJ 26 1 #[rr pa1, ii 1, ii 3, rr xa1_2, ii 0] X9 d36_23 rfl rfl (by decide) rfl <| oJ 29 1 #[rr pa1, ii 1, ii 3, rr xa1_2, ii 1] X9 d36_26 rfl rfl (by decide) rfl <| og 8 X9 d36_29 (by decide) <| oi 10 X9 d36_8 rfl rfl <| oI 11 X9 d36_10 rfl rfl <| oN 14 X9 d36_11 rfl (tlt (by decide)).2.1 <| oA 15 X9 d36_14 rfl rfl <| oi 17 X9 d36_15 rfl rfl <| oA 18 X9 d36_17 rfl rfl <| oI 19 X9 d36_18 rfl rfl ?_
  have f13 := f8.k1 K9 (by omega)
  refine oC 20 (v := (.int pi1)) X9 f13 ⟨by decide, by decide⟩ rfl d36_19 rfl ?_
  have f14 := C9.safe (own_lt (by omega)) q6
  refine mS 23 0 X9 (rm_putChar G q10 V12 ⟨by decide, by decide⟩ ⟨by decide, by decide⟩ (Nat.le_of_ble_eq_true rfl) (Nat.le_of_ble_eq_true rfl) (by omega)) (u36 G) (sS (by omega) f14 all0) d36_20 rfl rfl rfl lr (by decide) (aR (by omega) all0) ?_
  rintro _ _ _ _ X15 ⟨rfl, q16, q17⟩ K15 _ C15
  have V18 := q17.as [.int 47, i0, .int ((pi1 >>> ((0 : Int32) &&& 31)).toInt8.toInt32), .int ((pi1 >>> ((8 : Int32) &&& 31)).toInt8.toInt32), i0, i0] rfl
  refine oJ 26 2 #[rr pa1, ii 2, ii 3, rr xa1_2, ii 1] X15 d36_23 rfl rfl (by decide) rfl <| oJ 29 2 #[rr pa1, ii 2, ii 3, rr xa1_2, ii 2] X15 d36_26 rfl rfl (by decide) rfl <| og 8 X15 d36_29 (by decide) <| oi 10 X15 d36_8 rfl rfl <| oI 11 X15 d36_10 rfl rfl <| oN 14 X15 d36_11 rfl (tlt (by decide)).2.1 <| oA 15 X15 d36_14 rfl rfl <| oi 17 X15 d36_15 rfl rfl <| oA 18 X15 d36_17 rfl rfl <| oI 19 X15 d36_18 rfl rfl ?_
  have f19 := f13.k1 K15 (by omega)
  refine oC 20 (v := (.int pi2)) X15 f19 ⟨by decide, by decide⟩ rfl d36_19 rfl ?_
  have f20 := C15.safe (own_lt (by omega)) f14
  refine mS 23 0 X15 (rm_putChar G q16 V18 ⟨by decide, by decide⟩ ⟨by decide, by decide⟩ (Nat.le_of_ble_eq_true rfl) (Nat.le_of_ble_eq_true rfl) (by omega)) (u36 G) (sS (by omega) f20 all0) d36_20 rfl rfl rfl lr (by decide) (aR (by omega) all0) ?_
  rintro _ _ _ _ X21 ⟨rfl, q22, q23⟩ _ _ C21
  have V24 := q23.as [.int 47, i0, .int ((pi1 >>> ((0 : Int32) &&& 31)).toInt8.toInt32), .int ((pi1 >>> ((8 : Int32) &&& 31)).toInt8.toInt32), .int ((pi2 >>> ((0 : Int32) &&& 31)).toInt8.toInt32), .int ((pi2 >>> ((8 : Int32) &&& 31)).toInt8.toInt32)] rfl
  refine oJ 26 3 #[rr pa1, ii 3, ii 3, rr xa1_2, ii 2] X21 d36_23 rfl rfl (by decide) rfl <| oJ 29 3 #[rr pa1, ii 3, ii 3, rr xa1_2, ii 3] X21 d36_26 rfl rfl (by decide) rfl <| og 8 X21 d36_29 (by decide) <| oi 10 X21 d36_8 rfl rfl <| oI 11 X21 d36_10 rfl rfl <| oY 32 X21 d36_11 (by decide) (flt (by decide)).2.1 <| oA 33 X21 d36_32 rfl rfl ?_
  have f25 := C21.safe (own_lt (by omega)) f20
  exact oR X21 d36_33 rfl rfl rfl (by decide) (by decide) (fun _ CC => ⟨xa1_2, xk1_3, rfl, V24, q22, (CC.safe (own_lt (by omega)) f25), by omega⟩)
theorem rm_au115 (G : GL l Z a0 zc fmt kpp) (F0 : av1 Z h0 pa1 pk1 3 [.int 47, .int pi1, .int pi2]) (bg_pi1 : (255 : Int32) < pi1 ∧ ¬ (65535 : Int32) < pi1) : M5 l Z 3 2 9 40 #[.ref pa1, i0, .int 3] h0 n0 [] [] (Q59 Z pi1 pi2 h0) := by
  refine mi B5 ef5 (hEW G) fun s X0 hsf0 n0le => ?_
  have l1 := F0.l
  refine oI 1 X0 d5_0 rfl rfl <| nP (aty := .byte) 3 3 X0 (w16 G) d5_1 rfl (by decide) had_byte ?_
  intro _ h1 b1 k1 X1 _ l1 E1 V1 A1 _ S1
  have V2 : av0 Z h1 b1 k1 3 [i0, i0, i0] := V1.pad (pad_rep [] (.int (0 : Int32)) 3)
  refine oV 4 (l' := #[rr pa1, ii 0, ii 3, rr b1, uu, uu]) X1 d5_3 rfl rfl rfl <| oA 5 X1 d5_4 rfl rfl <| oI 6 X1 d5_5 rfl rfl <| oA 7 X1 d5_6 rfl rfl <| oc 8 (v := 0) X1 d5_7 rfl (by decide) <| oI 9 X1 d5_8 rfl rfl ?_
  have f3 := F0.ext E1
  refine mS 12 0 X1 (rm_au111 G f3 V2 A1 bg_pi1 (by omega)) (u2 G) (sS (by omega) S1 all0) d5_9 rfl rfl rfl lr (by decide) (aR (by omega) all0) ?_
  rintro _ _ _ _ X4 ⟨rfl, _, _⟩ K4 _ _
  refine oS 14 (l' := #[rr pa1, ii 0, ii 3, rr b1, ii 1, uu]) X4 d5_12 rfl rfl <| oi 16 X4 d5_14 rfl rfl <| oI 17 X4 d5_16 rfl rfl <| oN 20 X4 d5_17 rfl (feq (by decide)).1 <| oA 21 X4 d5_20 rfl rfl <| oI 22 X4 d5_21 rfl rfl <| oI 23 X4 d5_22 rfl rfl ?_
  have f7 := f3.k1 K4 (by omega)
  refine mS 26 0 X4 (rm_au114 G f7 bg_pi1) (u37 G) all0 d5_23 rfl rfl rfl lr (by decide) all0 ?_
  rintro _ _ _ _ X8 ⟨xa1_9, xk1_10, rfl, q11, q12, q13, _⟩ _ _ _
  refine oU 28 (l' := #[rr pa1, ii 0, ii 3, rr b1, ii 1, rr xa1_9]) X8 d5_26 rfl rfl rfl <| oa 30 X8 d5_28 rfl rfl <| oi 32 X8 d5_30 rfl rfl <| mS 35 0 X8 (rm_getChar G q11 ⟨by decide, by decide⟩ ⟨by decide, by decide⟩ rfl rfl) (u38 G) all0 d5_32 rfl rfl rfl lr (by decide) all0 ?_
  rintro _ _ _ _ X15 rfl K15 _ C15
  refine o_sipush 38 (v := 255) X15 d5_35 rfl (by decide) <| oY 54 X15 d5_38 (by decide) (tlt (by rw [own_gcE bg_pi1]; exact bg_pi1.1)).2.2.1 <| oa 56 X15 d5_54 rfl rfl ?_
  have f16 := q11.k0 K15
  have f17 := q12.keep K15
  have f18 := C15.safe (own_lt (by omega)) q13
  exact oR X15 d5_56 rfl rfl rfl (by decide) (by decide) (fun _ CC => ⟨xa1_9, xk1_10, rfl, f16, f17, (CC.safe (own_lt (by omega)) f18), by omega⟩)
theorem rm_au116 (G : GL l Z a0 zc fmt kpp) (F0 : av0 Z h0 pa1 pk1 6 ps_pa1) : M7 l Z 0 0 0 0 #[.ref pa1, .int 3] h0 n0 [] [] (Q16 Z  h0) := by
  refine mi B7 ef1 (hEW G) fun s X0 hsf0 n0le => ?_
  have := F0.l
  refine oI 1 X0 d7_0 rfl rfl <| oA 2 X0 d7_1 rfl rfl <| oL 3 X0 F0 d7_2 rfl <| o_isub 4 (v := (-3)) X0 d7_3 rfl (by decide) <| ob 6 (v := 31) X0 d7_4 rfl (by decide) <| o_iushr 7 (v := 1) X0 d7_6 rfl (by decide) <| o_i2b 8 (v := 1) X0 d7_7 rfl (by decide) ?_
  exact o_nret (y := (1 : Int32)) (t := .byte) X0 d7_8 rfl (by decide) (by simp) (by decide) (by decide) (fun _ CC => rfl)
def Q60 (Z : State) (b1 : Addr) (b2 b3 : Int32) (h0 : Heap) (v : Option Value) (h : Heap) (vm : Vm) : Prop := ∃ (xa1 : Addr) (xk1 : ClassId), v = none ∧ ex1 Z h b1 ∧ fd1 Z h b1 (.int 1) ∧ fd0 Z h b1 (.ref xa1) ∧ av0 Z h xa1 xk1 6 [.int 47, i0, .int ((b2 >>> ((0 : Int32) &&& 31)).toInt8.toInt32), .int ((b2 >>> ((8 : Int32) &&& 31)).toInt8.toInt32), .int ((b3 >>> ((0 : Int32) &&& 31)).toInt8.toInt32), .int ((b3 >>> ((8 : Int32) &&& 31)).toInt8.toInt32)] ∧ ex0 Z h xa1 ∧ Safe Z EL0 vm h xa1 ∧ h0.size ≤ xa1 ∧ h.size > xa1
theorem rm_au117 (G : GL l Z a0 zc fmt kpp) (F0 : ex1 Z h0 pa1) (F1 : fd1 Z h0 pa1 (.int 0)) (F2 : fd0 Z h0 pa1 .null) (F3 : av1 Z h0 pa2 pk1 3 [.int 47, .int pi1, .int pi2]) (bg_pi1 : (255 : Int32) < pi1 ∧ ¬ (65535 : Int32) < pi1) (ne : NE pa1 pa2 ∧ n0 ≤ pa1) : M4 l Z 4 2 9 57 #[.ref pa1, .ref pa2, i0, .int 3, .null] h0 n0 [pa1] [pa1] (Q60 Z pa1 pi1 pi2 h0) := by
  refine mi B4 ef4 (hEW G) fun s X0 hsf0 n0le => ?_
  have := F0.l
  have := F3.l
  have sf_pa1 := hsf0 pa1 (by simp)
  refine oA 1 X0 d4_0 rfl rfl <| o_initO 4 (W := 0) X0 (w12 G) (w13 G) (w14 G) rfl (by decide) (Nat.le_of_eq rfl) (by decide) d4_1 rfl ?_
  intro _ X2
  refine oI 5 X2 d4_4 rfl rfl <| oy 27 X2 d4_5 (by decide) ((if0 _ _).trans (feq (by decide)).2) <| oG 30 X2 (w23 G) Via.refl ((sg5 G).ext X2.old.2) d4_27 rfl ?_
  intro _ X4
  refine on 33 X4 d4_30 rfl ((if0 _ _).trans (feq (hzc G)).1) <| oA 34 X4 d4_33 rfl rfl <| oI 35 X4 d4_34 rfl rfl <| oI 36 X4 d4_35 rfl rfl <| mS 39 0 X4 (rm_au115 G F3 bg_pi1) (u3 G) all0 d4_36 rfl rfl rfl lr (by decide) all0 ?_
  rintro _ _ _ _ X5 ⟨xa1_6, xk1_7, rfl, q8, q9, q10, _⟩ K5 _ C5
  refine oU 41 (l' := #[rr pa1, rr pa2, ii 0, ii 3, .val .null, rr xa1_6]) X5 d4_39 rfl rfl rfl <| oA 42 X5 d4_41 rfl rfl <| oa 44 X5 d4_42 rfl rfl <| oI 45 X5 d4_44 rfl rfl <| mS 48 1 X5 (rm_au116 G q8) (u4 G) all0 d4_45 rfl rfl rfl lr (by decide) all0 ?_
  rintro _ _ _ _ X12 rfl K12 _ C12
  have f13 := (F1.k0 K5).k0 K12
  have f14 := (F0.keep K5).keep K12
  have f16 := C12.safe (own_lt (by omega)) (C5.safe (own_lt (by omega)) sf_pa1)
  refine oP 51 (v' := (.int 1)) X12 (w22 G) Via.refl f13 f14 (Or.inr ⟨(w18 G), rfl, rfl⟩) (w2 G) fd_1 rfl rfl d4_48 rfl (by omega) (Or.inl (by simp)) f16 ?_
  intro _ _ X15 W15 C15
  have := W15.size
  have f17 := f13.same W15
  refine oA 52 X15 d4_51 rfl rfl <| oa 54 X15 d4_52 rfl rfl ?_
  have f18 := ((F2.k0 K5).k0 K12).other W15 (Or.inr (sn1 G))
  have f19 := f14.wr W15
  have f21 := C15.safe (own_lt (by omega)) f16
  refine oP 57 (v' := (.ref xa1_6)) X15 (w21 G) Via.refl f18 f19 (Or.inr ⟨(w17 G), rfl, rfl⟩) (w2 G) fd_0 rfl rfl d4_54 rfl (by omega) (Or.inl (by simp)) f21 ?_
  intro _ _ X20 W20 C20
  have := W20.size
  have f22 := f18.same W20
  have f23 := f19.wr W20
  have f24 := f17.other W20 (Or.inr (sn0 G))
  have f25 := ((q8.k0 K12).oth W15 (by omega)).oth W20 (by omega)
  have f26 := ((q9.keep K12).wr W15).wr W20
  have f27 := C20.safe (own_lt (by omega)) (C15.safe (own_lt (by omega)) (C12.safe (own_lt (by omega)) q10))
  exact oz X20 d4_57 rfl (by decide) (by decide) (fun _ CC => ⟨xa1_6, xk1_7, rfl, f23, f24, f22, f25, f26, (CC.safe (own_lt (by omega)) f27), by omega⟩)
theorem rm_au118 (G : GL l Z a0 zc fmt kpp) (F0 : ex1 Z h0 pa1) (F1 : fd1 Z h0 pa1 (.int 0)) (F2 : fd0 Z h0 pa1 .null) (F3 : av1 Z h0 pa2 pk1 3 [.int 47, .int pi1, .int pi2]) (bg_pi1 : (255 : Int32) < pi1 ∧ ¬ (65535 : Int32) < pi1) (ne : NE pa1 pa2 ∧ n0 ≤ pa1) : M3 l Z 5 2 9 74 #[.ref pa1, .ref pa2] h0 n0 [pa1] [pa1] (Q60 Z pa1 pi1 pi2 h0) := by
  refine mi B3 ef3 (hEW G) fun s X0 hsf0 n0le => ?_
  have := F0.l
  have := F3.l
  have sf_pa1 := hsf0 pa1 (by simp)
  refine oA 1 X0 d3_0 rfl rfl <| oA 2 X0 d3_1 rfl rfl <| oc 3 (v := 0) X0 d3_2 rfl (by decide) <| oA 4 X0 d3_3 rfl rfl <| oL 5 X0 F3 d3_4 rfl <| o_aconstNull 6 X0 d3_5 rfl <| mP 9 0 X0 (rm_au117 G F0 F1 F2 F3 bg_pi1 (by omega)) (u0 G) (sS (by omega) sf_pa1 all0) d3_6 rfl rfl rfl lr (by decide) (aI (by omega) (by simp) all0) ?_
  rintro _ _ _ _ X1 ⟨xa1_2, xk1_3, rfl, q4, q5, q6, q7, q8, q9, _⟩ _ _ _
  exact oz X1 d3_9 rfl (by decide) (by decide) (fun _ CC => ⟨xa1_2, xk1_3, rfl, q4, q5, q6, q7, q8, (CC.safe (own_lt (by omega)) q9), by omega⟩)
def Q61 (Z : State) (b1 : Addr) (b2 : ClassId) (h0 : Heap) (v : Option Value) (h : Heap) (vm : Vm) : Prop := v = some (.int 1) ∧ av0 Z h b1 b2 5 [.int 47, i0, i0, i0, i0] ∧ ex0 Z h b1
theorem rm_au119 (G : GL l Z a0 zc fmt kpp) (F0 : av1 Z h0 pa1 pk1 5 [.int 47, .int pi1, .int pi2, .int 47, .int 42]) (F1 : av0 Z h0 pa2 pk2 5 [i0, i0, i0, i0, i0]) (F2 : ex0 Z h0 pa2) (bg_pi1 : (255 : Int32) < pi1 ∧ ¬ (65535 : Int32) < pi1) (ne : NE pa1 pa2 ∧ n0 ≤ pa2) : M6 l Z 0 0 0 0 #[.ref pa1, i0, .ref pa2, i0, .int 5] h0 n0 [pa2] [pa2] (Q61 Z pa2 pk2 h0) := by
  refine mi B6 ef6 (hEW G) fun s X0 hsf0 n0le => ?_
  have := F0.l
  have := F1.l
  have sf_pa2 := hsf0 pa2 (by simp)
  refine oc 1 (v := 0) X0 d6_0 rfl (by decide) <| oS 3 (l' := #[rr pa1, ii 0, rr pa2, ii 0, ii 5, ii 0, uu]) X0 d6_1 rfl rfl <| oi 5 X0 d6_3 rfl rfl <| oi 7 X0 d6_5 rfl rfl <| oN 10 X0 d6_7 rfl (tlt (by decide)).2.1 <| oA 11 X0 d6_10 rfl rfl <| oI 12 X0 d6_11 rfl rfl <| oC 13 (v := (.int 47)) X0 F0 ⟨by decide, by decide⟩ rfl d6_12 rfl <| oS 15 (l' := #[rr pa1, ii 0, rr pa2, ii 0, ii 5, ii 0, ii 47]) X0 d6_13 rfl rfl <| oi 17 X0 d6_15 rfl rfl <| o_sipush 20 (v := 255) X0 d6_17 rfl (by decide) <| oY 26 X0 d6_20 (by decide) (flt (by decide)).2.2.2 ?_
  refine oA 27 X0 d6_26 rfl rfl <| oI 28 X0 d6_27 rfl rfl <| oi 30 X0 d6_28 rfl rfl <| o_i2b 31 (v := 47) X0 d6_30 rfl (by decide) <| sB 32 0 47 X0 F1 (by decide) (lb rfl) (by decide) d6_31 rfl (by omega) (Or.inl (by simp)) sf_pa2 ?_
  rintro _ _ X1 ⟨_, _, W1⟩ _ V1
  have := W1.size
  have V2 := V1.as [.int 47, i0, i0, i0, i0] rfl
  refine oJ 35 1 #[rr pa1, ii 1, rr pa2, ii 0, ii 5, ii 0, ii 47] X1 d6_32 rfl rfl (by decide) rfl <| oJ 38 1 #[rr pa1, ii 1, rr pa2, ii 1, ii 5, ii 0, ii 47] X1 d6_35 rfl rfl (by decide) rfl <| oJ 41 1 #[rr pa1, ii 1, rr pa2, ii 1, ii 5, ii 1, ii 47] X1 d6_38 rfl rfl (by decide) rfl <| og 3 X1 d6_41 (by decide) <| oi 5 X1 d6_3 rfl rfl <| oi 7 X1 d6_5 rfl rfl <| oN 10 X1 d6_7 rfl (tlt (by decide)).2.1 <| oA 11 X1 d6_10 rfl rfl <| oI 12 X1 d6_11 rfl rfl ?_
  have f3 := F0.oth W1 (by omega)
  refine oC 13 (v := (.int pi1)) X1 f3 ⟨by decide, by decide⟩ rfl d6_12 rfl <| oS 15 (l' := #[rr pa1, ii 1, rr pa2, ii 1, ii 5, ii 1, ii pi1]) X1 d6_13 rfl rfl <| oi 17 X1 d6_15 rfl rfl <| o_sipush 20 (v := 255) X1 d6_17 rfl (by decide) <| oN 23 X1 d6_20 rfl (tlt bg_pi1.1).2.2.2 <| oi 25 X1 d6_23 rfl rfl ?_
  have f4 := F2.wr W1
  exact o_iret X1 d6_25 rfl (by decide) (by decide) (fun _ CC => ⟨rfl, V2, f4⟩)
def Q62 (Z : State) (h0 : Heap) (v : Option Value) (h : Heap) (vm : Vm) : Prop := v = some (.int 10)
theorem rm_au120 (G : GL l Z a0 zc fmt kpp)  : M38 l Z 0 0 0 0 #[.int 5] h0 n0 [] [] (Q62 Z  h0) := by
  refine mi B38 ef16 (hEW G) fun s X0 hsf0 n0le => ?_
  refine oI 1 X0 d38_0 rfl rfl <| oy 12 X0 d38_1 (by decide) ((if0 _ _).trans (flt (by decide)).2.1) <| oI 13 X0 d38_12 rfl rfl <| o_ldcI 15 (v := (1073741823 : Int32)) X0 (w199 G) d38_13 rfl <| oY 55 X0 d38_15 (by decide) (tlt (by decide)).1 <| oI 56 X0 d38_55 rfl rfl <| oc 57 (v := 1) X0 d38_56 rfl (by decide) <| o_ishl 58 (v := 10) X0 d38_57 rfl (by decide) ?_
  exact o_iret X0 d38_58 rfl (by decide) (by decide) (fun _ CC => rfl)
def Q63 (Z : State) (h0 : Heap) (v : Option Value) (h : Heap) (vm : Vm) : Prop := ∃ (xa1 : Addr) (xk1 : ClassId), v = some (.ref xa1) ∧ av0 Z h xa1 xk1 10 [i0, i0, i0, i0, i0, i0, i0, i0, i0, i0] ∧ ex0 Z h xa1 ∧ Safe Z EL0 vm h xa1 ∧ h0.size ≤ xa1 ∧ h.size > xa1
theorem rm_au121 (G : GL l Z a0 zc fmt kpp)  : M37 l Z 1 1 10 12 #[.int 5] h0 n0 [] [] (Q63 Z  h0) := by
  refine mi B37 ef16 (hEW G) fun s X0 hsf0 n0le => ?_
  refine oI 1 X0 d37_0 rfl rfl <| mS 4 0 X0 (rm_au120 G ) (u34 G) all0 d37_1 rfl rfl rfl lr (by decide) all0 ?_
  rintro _ _ _ _ X1 rfl _ _ _
  refine nP (aty := .byte) 6 10 X1 (w16 G) d37_4 rfl (by decide) had_byte ?_
  intro _ h2 b2 k2 X2 _ _ _ V2 A2 _ S2
  have V3 : av0 Z h2 b2 k2 10 [i0, i0, i0, i0, i0, i0, i0, i0, i0, i0] := V2.pad (pad_rep [] (.int (0 : Int32)) 10)
  exact oR X2 d37_6 rfl rfl rfl (by decide) (by decide) (fun _ CC => ⟨b2, k2, rfl, V3, A2, (CC.safe (own_lt (by omega)) S2), by omega⟩)
def Q64 (Z : State) (b1 b2 : Int32) (h0 : Heap) (v : Option Value) (h : Heap) (vm : Vm) : Prop := ∃ (xa1 : Addr) (xk1 : ClassId), v = some (.ref xa1) ∧ av0 Z h xa1 xk1 10 [.int 47, i0, .int ((b1 >>> ((0 : Int32) &&& 31)).toInt8.toInt32), .int ((b1 >>> ((8 : Int32) &&& 31)).toInt8.toInt32), .int ((b2 >>> ((0 : Int32) &&& 31)).toInt8.toInt32), .int ((b2 >>> ((8 : Int32) &&& 31)).toInt8.toInt32), .int 47, i0, .int 42, i0] ∧ ex0 Z h xa1 ∧ Safe Z EL0 vm h xa1 ∧ h0.size ≤ xa1 ∧ h.size > xa1
theorem rm_au122 (G : GL l Z a0 zc fmt kpp) (F0 : av1 Z h0 pa1 pk1 5 [.int 47, .int pi1, .int pi2, .int 47, .int 42]) (bg_pi1 : (255 : Int32) < pi1 ∧ ¬ (65535 : Int32) < pi1) : M36 l Z 2 1 10 24 #[.ref pa1, i0, .int 5] h0 n0 [] [] (Q64 Z pi1 pi2 h0) := by
  refine mi B36 ef13 (hEW G) fun s X0 hsf0 n0le => ?_
  have := F0.l
  refine oI 1 X0 d36_0 rfl rfl <| mS 4 0 X0 (rm_au121 G ) (u35 G) all0 d36_1 rfl rfl rfl lr (by decide) all0 ?_
  rintro _ _ _ _ X1 ⟨xa1_2, xk1_3, rfl, q4, q5, q6, _⟩ K1 _ _
  refine oV 5 (l' := #[rr pa1, ii 0, ii 5, rr xa1_2, uu]) X1 d36_4 rfl rfl rfl <| oc 6 (v := 0) X1 d36_5 rfl (by decide) <| oS 8 (l' := #[rr pa1, ii 0, ii 5, rr xa1_2, ii 0]) X1 d36_6 rfl rfl <| oi 10 X1 d36_8 rfl rfl <| oI 11 X1 d36_10 rfl rfl <| oN 14 X1 d36_11 rfl (tlt (by decide)).2.1 <| oA 15 X1 d36_14 rfl rfl <| oi 17 X1 d36_15 rfl rfl <| oA 18 X1 d36_17 rfl rfl <| oI 19 X1 d36_18 rfl rfl ?_
  have f8 := F0.k0 K1
  refine oC 20 (v := (.int 47)) X1 f8 ⟨by decide, by decide⟩ rfl d36_19 rfl <| mS 23 0 X1 (rm_putChar G q5 q4 ⟨by decide, by decide⟩ ⟨by decide, by decide⟩ (Nat.le_of_ble_eq_true rfl) (Nat.le_of_ble_eq_true rfl) (by omega)) (u36 G) (sS (by omega) q6 all0) d36_20 rfl rfl rfl lr (by decide) (aR (by omega) all0) ?_
  rintro _ _ _ _ X9 ⟨rfl, q10, q11⟩ K9 _ C9
  have V12 := q11.as [.int 47, i0, i0, i0, i0, i0, i0, i0, i0, i0] rfl
  refine oJ 26 1 #[rr pa1, ii 1, ii 5, rr xa1_2, ii 0] X9 d36_23 rfl rfl (by decide) rfl <| oJ 29 1 #[rr pa1, ii 1, ii 5, rr xa1_2, ii 1] X9 d36_26 rfl rfl (by decide) rfl <| og 8 X9 d36_29 (by decide) <| oi 10 X9 d36_8 rfl rfl <| oI 11 X9 d36_10 rfl rfl <| oN 14 X9 d36_11 rfl (tlt (by decide)).2.1 <| oA 15 X9 d36_14 rfl rfl <| oi 17 X9 d36_15 rfl rfl <| oA 18 X9 d36_17 rfl rfl <| oI 19 X9 d36_18 rfl rfl ?_
  have f13 := f8.k1 K9 (by omega)
  refine oC 20 (v := (.int pi1)) X9 f13 ⟨by decide, by decide⟩ rfl d36_19 rfl ?_
  have f14 := C9.safe (own_lt (by omega)) q6
  refine mS 23 0 X9 (rm_putChar G q10 V12 ⟨by decide, by decide⟩ ⟨by decide, by decide⟩ (Nat.le_of_ble_eq_true rfl) (Nat.le_of_ble_eq_true rfl) (by omega)) (u36 G) (sS (by omega) f14 all0) d36_20 rfl rfl rfl lr (by decide) (aR (by omega) all0) ?_
  rintro _ _ _ _ X15 ⟨rfl, q16, q17⟩ K15 _ C15
  have V18 := q17.as [.int 47, i0, .int ((pi1 >>> ((0 : Int32) &&& 31)).toInt8.toInt32), .int ((pi1 >>> ((8 : Int32) &&& 31)).toInt8.toInt32), i0, i0, i0, i0, i0, i0] rfl
  refine oJ 26 2 #[rr pa1, ii 2, ii 5, rr xa1_2, ii 1] X15 d36_23 rfl rfl (by decide) rfl <| oJ 29 2 #[rr pa1, ii 2, ii 5, rr xa1_2, ii 2] X15 d36_26 rfl rfl (by decide) rfl <| og 8 X15 d36_29 (by decide) <| oi 10 X15 d36_8 rfl rfl <| oI 11 X15 d36_10 rfl rfl <| oN 14 X15 d36_11 rfl (tlt (by decide)).2.1 <| oA 15 X15 d36_14 rfl rfl <| oi 17 X15 d36_15 rfl rfl <| oA 18 X15 d36_17 rfl rfl <| oI 19 X15 d36_18 rfl rfl ?_
  have f19 := f13.k1 K15 (by omega)
  refine oC 20 (v := (.int pi2)) X15 f19 ⟨by decide, by decide⟩ rfl d36_19 rfl ?_
  have f20 := C15.safe (own_lt (by omega)) f14
  refine mS 23 0 X15 (rm_putChar G q16 V18 ⟨by decide, by decide⟩ ⟨by decide, by decide⟩ (Nat.le_of_ble_eq_true rfl) (Nat.le_of_ble_eq_true rfl) (by omega)) (u36 G) (sS (by omega) f20 all0) d36_20 rfl rfl rfl lr (by decide) (aR (by omega) all0) ?_
  rintro _ _ _ _ X21 ⟨rfl, q22, q23⟩ K21 _ C21
  have V24 := q23.as [.int 47, i0, .int ((pi1 >>> ((0 : Int32) &&& 31)).toInt8.toInt32), .int ((pi1 >>> ((8 : Int32) &&& 31)).toInt8.toInt32), .int ((pi2 >>> ((0 : Int32) &&& 31)).toInt8.toInt32), .int ((pi2 >>> ((8 : Int32) &&& 31)).toInt8.toInt32), i0, i0, i0, i0] rfl
  refine oJ 26 3 #[rr pa1, ii 3, ii 5, rr xa1_2, ii 2] X21 d36_23 rfl rfl (by decide) rfl <| oJ 29 3 #[rr pa1, ii 3, ii 5, rr xa1_2, ii 3] X21 d36_26 rfl rfl (by decide) rfl <| og 8 X21 d36_29 (by decide) <| oi 10 X21 d36_8 rfl rfl <| oI 11 X21 d36_10 rfl rfl <| oN 14 X21 d36_11 rfl (tlt (by decide)).2.1 <| oA 15 X21 d36_14 rfl rfl <| oi 17 X21 d36_15 rfl rfl <| oA 18 X21 d36_17 rfl rfl <| oI 19 X21 d36_18 rfl rfl ?_
  have f25 := f19.k1 K21 (by omega)
  refine oC 20 (v := (.int 47)) X21 f25 ⟨by decide, by decide⟩ rfl d36_19 rfl ?_
  have f26 := C21.safe (own_lt (by omega)) f20
  refine mS 23 0 X21 (rm_putChar G q22 V24 ⟨by decide, by decide⟩ ⟨by decide, by decide⟩ (Nat.le_of_ble_eq_true rfl) (Nat.le_of_ble_eq_true rfl) (by omega)) (u36 G) (sS (by omega) f26 all0) d36_20 rfl rfl rfl lr (by decide) (aR (by omega) all0) ?_
  rintro _ _ _ _ X27 ⟨rfl, q28, q29⟩ K27 _ C27
  have V30 := q29.as [.int 47, i0, .int ((pi1 >>> ((0 : Int32) &&& 31)).toInt8.toInt32), .int ((pi1 >>> ((8 : Int32) &&& 31)).toInt8.toInt32), .int ((pi2 >>> ((0 : Int32) &&& 31)).toInt8.toInt32), .int ((pi2 >>> ((8 : Int32) &&& 31)).toInt8.toInt32), .int 47, i0, i0, i0] rfl
  refine oJ 26 4 #[rr pa1, ii 4, ii 5, rr xa1_2, ii 3] X27 d36_23 rfl rfl (by decide) rfl <| oJ 29 4 #[rr pa1, ii 4, ii 5, rr xa1_2, ii 4] X27 d36_26 rfl rfl (by decide) rfl <| og 8 X27 d36_29 (by decide) <| oi 10 X27 d36_8 rfl rfl <| oI 11 X27 d36_10 rfl rfl <| oN 14 X27 d36_11 rfl (tlt (by decide)).2.1 <| oA 15 X27 d36_14 rfl rfl <| oi 17 X27 d36_15 rfl rfl <| oA 18 X27 d36_17 rfl rfl <| oI 19 X27 d36_18 rfl rfl ?_
  have f31 := f25.k1 K27 (by omega)
  refine oC 20 (v := (.int 42)) X27 f31 ⟨by decide, by decide⟩ rfl d36_19 rfl ?_
  have f32 := C27.safe (own_lt (by omega)) f26
  refine mS 23 0 X27 (rm_putChar G q28 V30 ⟨by decide, by decide⟩ ⟨by decide, by decide⟩ (Nat.le_of_ble_eq_true rfl) (Nat.le_of_ble_eq_true rfl) (by omega)) (u36 G) (sS (by omega) f32 all0) d36_20 rfl rfl rfl lr (by decide) (aR (by omega) all0) ?_
  rintro _ _ _ _ X33 ⟨rfl, q34, q35⟩ _ _ C33
  have V36 := q35.as [.int 47, i0, .int ((pi1 >>> ((0 : Int32) &&& 31)).toInt8.toInt32), .int ((pi1 >>> ((8 : Int32) &&& 31)).toInt8.toInt32), .int ((pi2 >>> ((0 : Int32) &&& 31)).toInt8.toInt32), .int ((pi2 >>> ((8 : Int32) &&& 31)).toInt8.toInt32), .int 47, i0, .int 42, i0] rfl
  refine oJ 26 5 #[rr pa1, ii 5, ii 5, rr xa1_2, ii 4] X33 d36_23 rfl rfl (by decide) rfl <| oJ 29 5 #[rr pa1, ii 5, ii 5, rr xa1_2, ii 5] X33 d36_26 rfl rfl (by decide) rfl <| og 8 X33 d36_29 (by decide) <| oi 10 X33 d36_8 rfl rfl <| oI 11 X33 d36_10 rfl rfl <| oY 32 X33 d36_11 (by decide) (flt (by decide)).2.1 <| oA 33 X33 d36_32 rfl rfl ?_
  have f37 := C33.safe (own_lt (by omega)) f32
  exact oR X33 d36_33 rfl rfl rfl (by decide) (by decide) (fun _ CC => ⟨xa1_2, xk1_3, rfl, V36, q34, (CC.safe (own_lt (by omega)) f37), by omega⟩)
theorem rm_au123 (G : GL l Z a0 zc fmt kpp) (F0 : av1 Z h0 pa1 pk1 5 [.int 47, .int pi1, .int pi2, .int 47, .int 42]) (bg_pi1 : (255 : Int32) < pi1 ∧ ¬ (65535 : Int32) < pi1) : M5 l Z 3 2 15 40 #[.ref pa1, i0, .int 5] h0 n0 [] [] (Q64 Z pi1 pi2 h0) := by
  refine mi B5 ef5 (hEW G) fun s X0 hsf0 n0le => ?_
  have l1 := F0.l
  refine oI 1 X0 d5_0 rfl rfl <| nP (aty := .byte) 3 5 X0 (w16 G) d5_1 rfl (by decide) had_byte ?_
  intro _ h1 b1 k1 X1 _ l1 E1 V1 A1 _ S1
  have V2 : av0 Z h1 b1 k1 5 [i0, i0, i0, i0, i0] := V1.pad (pad_rep [] (.int (0 : Int32)) 5)
  refine oV 4 (l' := #[rr pa1, ii 0, ii 5, rr b1, uu, uu]) X1 d5_3 rfl rfl rfl <| oA 5 X1 d5_4 rfl rfl <| oI 6 X1 d5_5 rfl rfl <| oA 7 X1 d5_6 rfl rfl <| oc 8 (v := 0) X1 d5_7 rfl (by decide) <| oI 9 X1 d5_8 rfl rfl ?_
  have f3 := F0.ext E1
  refine mS 12 0 X1 (rm_au119 G f3 V2 A1 bg_pi1 (by omega)) (u2 G) (sS (by omega) S1 all0) d5_9 rfl rfl rfl lr (by decide) (aR (by omega) all0) ?_
  rintro _ _ _ _ X4 ⟨rfl, _, _⟩ K4 _ _
  refine oS 14 (l' := #[rr pa1, ii 0, ii 5, rr b1, ii 1, uu]) X4 d5_12 rfl rfl <| oi 16 X4 d5_14 rfl rfl <| oI 17 X4 d5_16 rfl rfl <| oN 20 X4 d5_17 rfl (feq (by decide)).1 <| oA 21 X4 d5_20 rfl rfl <| oI 22 X4 d5_21 rfl rfl <| oI 23 X4 d5_22 rfl rfl ?_
  have f7 := f3.k1 K4 (by omega)
  refine mS 26 0 X4 (rm_au122 G f7 bg_pi1) (u37 G) all0 d5_23 rfl rfl rfl lr (by decide) all0 ?_
  rintro _ _ _ _ X8 ⟨xa1_9, xk1_10, rfl, q11, q12, q13, _⟩ _ _ _
  refine oU 28 (l' := #[rr pa1, ii 0, ii 5, rr b1, ii 1, rr xa1_9]) X8 d5_26 rfl rfl rfl <| oa 30 X8 d5_28 rfl rfl <| oi 32 X8 d5_30 rfl rfl <| mS 35 0 X8 (rm_getChar G q11 ⟨by decide, by decide⟩ ⟨by decide, by decide⟩ rfl rfl) (u38 G) all0 d5_32 rfl rfl rfl lr (by decide) all0 ?_
  rintro _ _ _ _ X15 rfl K15 _ C15
  refine o_sipush 38 (v := 255) X15 d5_35 rfl (by decide) <| oY 54 X15 d5_38 (by decide) (tlt (by rw [own_gcE bg_pi1]; exact bg_pi1.1)).2.2.1 <| oa 56 X15 d5_54 rfl rfl ?_
  have f16 := q11.k0 K15
  have f17 := q12.keep K15
  have f18 := C15.safe (own_lt (by omega)) q13
  exact oR X15 d5_56 rfl rfl rfl (by decide) (by decide) (fun _ CC => ⟨xa1_9, xk1_10, rfl, f16, f17, (CC.safe (own_lt (by omega)) f18), by omega⟩)
theorem rm_au124 (G : GL l Z a0 zc fmt kpp) (F0 : av0 Z h0 pa1 pk1 10 ps_pa1) : M7 l Z 0 0 0 0 #[.ref pa1, .int 5] h0 n0 [] [] (Q16 Z  h0) := by
  refine mi B7 ef1 (hEW G) fun s X0 hsf0 n0le => ?_
  have := F0.l
  refine oI 1 X0 d7_0 rfl rfl <| oA 2 X0 d7_1 rfl rfl <| oL 3 X0 F0 d7_2 rfl <| o_isub 4 (v := (-5)) X0 d7_3 rfl (by decide) <| ob 6 (v := 31) X0 d7_4 rfl (by decide) <| o_iushr 7 (v := 1) X0 d7_6 rfl (by decide) <| o_i2b 8 (v := 1) X0 d7_7 rfl (by decide) ?_
  exact o_nret (y := (1 : Int32)) (t := .byte) X0 d7_8 rfl (by decide) (by simp) (by decide) (by decide) (fun _ CC => rfl)
def Q65 (Z : State) (b1 : Addr) (b2 b3 : Int32) (h0 : Heap) (v : Option Value) (h : Heap) (vm : Vm) : Prop := ∃ (xa1 : Addr) (xk1 : ClassId), v = none ∧ ex1 Z h b1 ∧ fd1 Z h b1 (.int 1) ∧ fd0 Z h b1 (.ref xa1) ∧ av0 Z h xa1 xk1 10 [.int 47, i0, .int ((b2 >>> ((0 : Int32) &&& 31)).toInt8.toInt32), .int ((b2 >>> ((8 : Int32) &&& 31)).toInt8.toInt32), .int ((b3 >>> ((0 : Int32) &&& 31)).toInt8.toInt32), .int ((b3 >>> ((8 : Int32) &&& 31)).toInt8.toInt32), .int 47, i0, .int 42, i0] ∧ ex0 Z h xa1 ∧ Safe Z EL0 vm h xa1 ∧ h0.size ≤ xa1 ∧ h.size > xa1
theorem rm_au125 (G : GL l Z a0 zc fmt kpp) (F0 : ex1 Z h0 pa1) (F1 : fd1 Z h0 pa1 (.int 0)) (F2 : fd0 Z h0 pa1 .null) (F3 : av1 Z h0 pa2 pk1 5 [.int 47, .int pi1, .int pi2, .int 47, .int 42]) (bg_pi1 : (255 : Int32) < pi1 ∧ ¬ (65535 : Int32) < pi1) (ne : NE pa1 pa2 ∧ n0 ≤ pa1) : M4 l Z 4 2 15 57 #[.ref pa1, .ref pa2, i0, .int 5, .null] h0 n0 [pa1] [pa1] (Q65 Z pa1 pi1 pi2 h0) := by
  refine mi B4 ef4 (hEW G) fun s X0 hsf0 n0le => ?_
  have := F0.l
  have := F3.l
  have sf_pa1 := hsf0 pa1 (by simp)
  refine oA 1 X0 d4_0 rfl rfl <| o_initO 4 (W := 0) X0 (w12 G) (w13 G) (w14 G) rfl (by decide) (Nat.le_of_eq rfl) (by decide) d4_1 rfl ?_
  intro _ X2
  refine oI 5 X2 d4_4 rfl rfl <| oy 27 X2 d4_5 (by decide) ((if0 _ _).trans (feq (by decide)).2) <| oG 30 X2 (w23 G) Via.refl ((sg5 G).ext X2.old.2) d4_27 rfl ?_
  intro _ X4
  refine on 33 X4 d4_30 rfl ((if0 _ _).trans (feq (hzc G)).1) <| oA 34 X4 d4_33 rfl rfl <| oI 35 X4 d4_34 rfl rfl <| oI 36 X4 d4_35 rfl rfl <| mS 39 0 X4 (rm_au123 G F3 bg_pi1) (u3 G) all0 d4_36 rfl rfl rfl lr (by decide) all0 ?_
  rintro _ _ _ _ X5 ⟨xa1_6, xk1_7, rfl, q8, q9, q10, _⟩ K5 _ C5
  refine oU 41 (l' := #[rr pa1, rr pa2, ii 0, ii 5, .val .null, rr xa1_6]) X5 d4_39 rfl rfl rfl <| oA 42 X5 d4_41 rfl rfl <| oa 44 X5 d4_42 rfl rfl <| oI 45 X5 d4_44 rfl rfl <| mS 48 1 X5 (rm_au124 G q8) (u4 G) all0 d4_45 rfl rfl rfl lr (by decide) all0 ?_
  rintro _ _ _ _ X12 rfl K12 _ C12
  have f13 := (F1.k0 K5).k0 K12
  have f14 := (F0.keep K5).keep K12
  have f16 := C12.safe (own_lt (by omega)) (C5.safe (own_lt (by omega)) sf_pa1)
  refine oP 51 (v' := (.int 1)) X12 (w22 G) Via.refl f13 f14 (Or.inr ⟨(w18 G), rfl, rfl⟩) (w2 G) fd_1 rfl rfl d4_48 rfl (by omega) (Or.inl (by simp)) f16 ?_
  intro _ _ X15 W15 C15
  have := W15.size
  have f17 := f13.same W15
  refine oA 52 X15 d4_51 rfl rfl <| oa 54 X15 d4_52 rfl rfl ?_
  have f18 := ((F2.k0 K5).k0 K12).other W15 (Or.inr (sn1 G))
  have f19 := f14.wr W15
  have f21 := C15.safe (own_lt (by omega)) f16
  refine oP 57 (v' := (.ref xa1_6)) X15 (w21 G) Via.refl f18 f19 (Or.inr ⟨(w17 G), rfl, rfl⟩) (w2 G) fd_0 rfl rfl d4_54 rfl (by omega) (Or.inl (by simp)) f21 ?_
  intro _ _ X20 W20 C20
  have := W20.size
  have f22 := f18.same W20
  have f23 := f19.wr W20
  have f24 := f17.other W20 (Or.inr (sn0 G))
  have f25 := ((q8.k0 K12).oth W15 (by omega)).oth W20 (by omega)
  have f26 := ((q9.keep K12).wr W15).wr W20
  have f27 := C20.safe (own_lt (by omega)) (C15.safe (own_lt (by omega)) (C12.safe (own_lt (by omega)) q10))
  exact oz X20 d4_57 rfl (by decide) (by decide) (fun _ CC => ⟨xa1_6, xk1_7, rfl, f23, f24, f22, f25, f26, (CC.safe (own_lt (by omega)) f27), by omega⟩)
theorem rm_au126 (G : GL l Z a0 zc fmt kpp) (F0 : ex1 Z h0 pa1) (F1 : fd1 Z h0 pa1 (.int 0)) (F2 : fd0 Z h0 pa1 .null) (F3 : av1 Z h0 pa2 pk1 5 [.int 47, .int pi1, .int pi2, .int 47, .int 42]) (bg_pi1 : (255 : Int32) < pi1 ∧ ¬ (65535 : Int32) < pi1) (ne : NE pa1 pa2 ∧ n0 ≤ pa1) : M3 l Z 5 2 15 74 #[.ref pa1, .ref pa2] h0 n0 [pa1] [pa1] (Q65 Z pa1 pi1 pi2 h0) := by
  refine mi B3 ef3 (hEW G) fun s X0 hsf0 n0le => ?_
  have := F0.l
  have := F3.l
  have sf_pa1 := hsf0 pa1 (by simp)
  refine oA 1 X0 d3_0 rfl rfl <| oA 2 X0 d3_1 rfl rfl <| oc 3 (v := 0) X0 d3_2 rfl (by decide) <| oA 4 X0 d3_3 rfl rfl <| oL 5 X0 F3 d3_4 rfl <| o_aconstNull 6 X0 d3_5 rfl <| mP 9 0 X0 (rm_au125 G F0 F1 F2 F3 bg_pi1 (by omega)) (u0 G) (sS (by omega) sf_pa1 all0) d3_6 rfl rfl rfl lr (by decide) (aI (by omega) (by simp) all0) ?_
  rintro _ _ _ _ X1 ⟨xa1_2, xk1_3, rfl, q4, q5, q6, q7, q8, q9, _⟩ _ _ _
  exact oz X1 d3_9 rfl (by decide) (by decide) (fun _ CC => ⟨xa1_2, xk1_3, rfl, q4, q5, q6, q7, q8, (CC.safe (own_lt (by omega)) q9), by omega⟩)
def Q66 (Z : State) (h0 : Heap) (v : Option Value) (h : Heap) (vm : Vm) : Prop := v = some (.int 3)
theorem rm_au127 (G : GL l Z a0 zc fmt kpp) (F0 : ex1 Z h0 pa1) (F1 : fd1 Z h0 pa1 (.int 1)) (F2 : fd0 Z h0 pa1 (.ref pa2)) (F3 : av0 Z h0 pa2 pk1 6 ps_pa2) : M13 l Z 1 0 0 13 #[.ref pa1] h0 n0 [] [] (Q66 Z  h0) := by
  refine mi B13 ef7 (hEW G) fun s X0 hsf0 n0le => ?_
  have := F0.l
  have := F3.l
  refine oA 1 X0 d13_0 rfl rfl <| oF 4 X0 (w21 G) Via.refl F2 d13_1 rfl ?_
  intro _ X2
  refine oL 5 X2 F3 d13_4 rfl <| oA 6 X2 d13_5 rfl rfl <| mV 9 1 X2 F0 (rm_au57 G F1) (u7 G) all0 d13_6 rfl rfl rfl lr (by decide) all0 ?_
  rintro _ _ _ _ X3 rfl _ _ _
  refine o_ishr 10 (v := 3) X3 d13_9 rfl (by decide) ?_
  exact o_iret X3 d13_10 rfl (by decide) (by decide) (fun _ CC => rfl)
def Q67 (Z : State) (b1 : Addr) (b2 : ClassId) (b3 b4 b5 b6 b7 b8 : Int32) (h0 : Heap) (v : Option Value) (h : Heap) (vm : Vm) : Prop := v = none ∧ av0 Z h b1 b2 32 [.int b3, .int b4, .int b5, .int b6, .int b7, .int b8, i0, i0, i0, i0, i0, i0, i0, i0, i0, i0, i0, i0, i0, i0, i0, i0, i0, i0, i0, i0, i0, i0, i0, i0, i0, i0] ∧ ex0 Z h b1
theorem rm_au128 (G : GL l Z a0 zc fmt kpp) (F0 : ex1 Z h0 pa1) (F1 : fd1 Z h0 pa1 (.int 1)) (F2 : fd0 Z h0 pa1 (.ref pa3)) (F3 : av0 Z h0 pa2 pk1 32 [i0, i0, i0, i0, i0, i0, i0, i0, i0, i0, i0, i0, i0, i0, i0, i0, i0, i0, i0, i0, i0, i0, i0, i0, i0, i0, i0, i0, i0, i0, i0, i0]) (F4 : ex0 Z h0 pa2) (F5 : av0 Z h0 pa3 pk2 6 [.int pi1, .int pi2, .int pi3, .int pi4, .int pi5, .int pi6]) (ne : NE pa1 pa2 ∧ NE pa2 pa3 ∧ n0 ≤ pa2) : M18 l Z 1 0 0 40 #[.ref pa1, .ref pa2, i0, .int 1] h0 n0 [pa2] [pa2] (Q67 Z pa2 pk1 pi1 pi2 pi3 pi4 pi5 pi6 h0) := by
  refine mi B18 ef11 (hEW G) fun s X0 hsf0 n0le => ?_
  have := F0.l
  have := F3.l
  have := F5.l
  have sf_pa2 := hsf0 pa2 (by simp)
  refine oA 1 X0 d18_0 rfl rfl <| mV 4 0 X0 F0 (rm_au57 G F1) (u7 G) all0 d18_1 rfl rfl rfl lr (by decide) all0 ?_
  rintro _ _ _ _ X1 rfl K1 _ C1
  refine oI 5 X1 d18_4 rfl rfl <| oN 8 X1 d18_5 rfl (teq (by decide)).2 <| oA 9 X1 d18_8 rfl rfl ?_
  have f2 := F2.k0 K1
  refine oF 12 X1 (w21 G) Via.refl f2 d18_9 rfl ?_
  intro _ X4
  refine oc 13 (v := 0) X4 d18_12 rfl (by decide) <| oA 14 X4 d18_13 rfl rfl <| oI 15 X4 d18_14 rfl rfl <| oI 16 X4 d18_15 rfl rfl <| o_ishl 17 (v := 0) X4 d18_16 rfl (by decide) <| oA 18 X4 d18_17 rfl rfl <| oF 21 X4 (w21 G) Via.refl f2 d18_18 rfl ?_
  intro _ X6
  have f7 := F5.k0 K1
  refine oL 22 X6 f7 d18_21 rfl ?_
  have f8 := F3.k0 K1
  have f9 := C1.safe (own_lt (by omega)) sf_pa2
  refine o_cp 25 (us := [.int pi1, .int pi2, .int pi3, .int pi4, .int pi5, .int pi6]) (vr := [.int pi1, .int pi2, .int pi3, .int pi4, .int pi5, .int pi6, i0, i0, i0, i0, i0, i0, i0, i0, i0, i0, i0, i0, i0, i0, i0, i0, i0, i0, i0, i0, i0, i0, i0, i0, i0, i0]) (W := 0) X6 (w101 G) (w104 G) (w102 G) (w103 G) f7 f8 (Or.inl ⟨rfl, rfl⟩) (by decide) (by decide) (by decide) (by decide) (by decide) rfl (Nat.le_of_ble_eq_true rfl) rfl d18_22 rfl rfl (by decide) (Nat.le_of_eq rfl) (by decide) (by omega) (Or.inl (by simp)) f9 ?_
  intro _ _ X10 K10 _ V10
  have := K10.1
  refine og 43 X10 d18_25 (by decide) ?_
  have f11 := (F4.keep K1).keep K10
  exact oz X10 d18_43 rfl (by decide) (by decide) (fun _ CC => ⟨rfl, V10, f11⟩)
def Q68 (Z : State) (b1 : Addr) (b2 b3 b4 b5 b6 b7 : Int32) (h0 : Heap) (v : Option Value) (h : Heap) (vm : Vm) : Prop := ∃ (xa1 : Addr) (xk1 : ClassId), v = none ∧ ex3 Z h b1 ∧ fd6 Z h b1 (.int 1) ∧ fd7 Z h b1 (.int 0) ∧ fd8 Z h b1 (.int 0) ∧ fd5 Z h b1 (.ref xa1) ∧ av0 Z h xa1 xk1 32 [.int b2, .int b3, .int b4, .int b5, .int b6, .int b7, i0, i0, i0, i0, i0, i0, i0, i0, i0, i0, i0, i0, i0, i0, i0, i0, i0, i0, i0, i0, i0, i0, i0, i0, i0, i0] ∧ ex0 Z h xa1 ∧ Safe Z EL0 vm h xa1 ∧ h0.size ≤ xa1 ∧ h.size > xa1
theorem rm_au129 (G : GL l Z a0 zc fmt kpp) (F0 : ex3 Z h0 pa1) (F1 : fd6 Z h0 pa1 (.int 0)) (F2 : fd7 Z h0 pa1 (.int 0)) (F3 : fd8 Z h0 pa1 (.int 0)) (F4 : fd5 Z h0 pa1 (.ref pa3)) (F5 : ex1 Z h0 pa2) (F6 : fd1 Z h0 pa2 (.int 1)) (F7 : fd0 Z h0 pa2 (.ref pa4)) (F8 : av0 Z h0 pa3 pk1 16 ps_pa3) (F9 : av0 Z h0 pa4 pk2 6 [.int pi1, .int pi2, .int pi3, .int pi4, .int pi5, .int pi6]) (ne : NE pa1 pa2 ∧ NE pa1 pa3 ∧ NE pa1 pa4 ∧ n0 ≤ pa1) : M16 l Z 7 1 32 102 #[.ref pa1, i0, .ref pa2] h0 n0 [pa1] [] (Q68 Z pa1 pi1 pi2 pi3 pi4 pi5 pi6 h0) := by
  refine mi B16 ef10 (hEW G) fun s X0 hsf0 n0le => ?_
  have := F0.l
  have := F5.l
  have := F8.l
  have := F9.l
  refine oA 1 X0 d16_0 rfl rfl <| oA 2 X0 d16_1 rfl rfl <| mV 5 0 X0 F0 (rm_au68 G F0 F1 F2 F3 F4 F5 F6 F8 (by omega)) (u11 G) all0 d16_2 rfl rfl rfl lr (by decide) (aI (by omega) (by simp) all0) ?_
  rintro _ _ _ _ X1 ⟨xa1_2, xk1_3, rfl, q4, q5, q6, q7, q8, q9, q10, q11, _⟩ K1 _ _
  refine oA 6 X1 d16_5 rfl rfl <| oA 7 X1 d16_6 rfl rfl <| oF 10 X1 (w54 G) Via.refl q8 d16_7 rfl ?_
  intro _ X14
  refine oI 11 X14 d16_10 rfl rfl <| oA 12 X14 d16_11 rfl rfl <| oF 15 X14 (w56 G) Via.refl q5 d16_12 rfl ?_
  intro _ X16
  have f17 := F5.keep K1
  have f18 := F6.k1 K1 (by omega)
  have f19 := F7.k1 K1 (by omega)
  have f20 := F9.k1 K1 (by omega)
  refine mV 18 0 X16 f17 (rm_au128 G f17 f18 f19 q9 q10 f20 (by omega)) (u12 G) (sS (by omega) q11 all0) d16_15 rfl rfl rfl lr (by decide) (aR (by omega) all0) ?_
  rintro _ _ _ _ X21 ⟨rfl, q22, q23⟩ K21 _ C21
  have f24 := q4.keep K21
  have f25 := q5.k1 K21 (by omega)
  have f26 := q6.k1 K21 (by omega)
  have f27 := q7.k1 K21 (by omega)
  have f28 := q8.k1 K21 (by omega)
  have f29 := C21.safe (own_lt (by omega)) q11
  exact oz X21 d16_18 rfl (by decide) (by decide) (fun _ CC => ⟨xa1_2, xk1_3, rfl, f24, f25, f26, f27, f28, q22, q23, (CC.safe (own_lt (by omega)) f29), by omega⟩)
def Q69 (Z : State) (b1 : Addr) (b2 b3 b4 b5 b6 b7 : Int32) (h0 : Heap) (v : Option Value) (h : Heap) (vm : Vm) : Prop := ∃ (xa1 : Addr) (xk1 : ClassId), v = some (.ref b1) ∧ ex3 Z h b1 ∧ fd6 Z h b1 (.int 1) ∧ fd7 Z h b1 (.int 3) ∧ fd8 Z h b1 (.int 0) ∧ fd5 Z h b1 (.ref xa1) ∧ av0 Z h xa1 xk1 32 [.int b2, .int b3, .int b4, .int b5, .int b6, .int b7, i0, i0, i0, i0, i0, i0, i0, i0, i0, i0, i0, i0, i0, i0, i0, i0, i0, i0, i0, i0, i0, i0, i0, i0, i0, i0] ∧ ex0 Z h xa1 ∧ Safe Z EL0 vm h xa1 ∧ h0.size ≤ xa1 ∧ h.size > xa1
theorem rm_au130 (G : GL l Z a0 zc fmt kpp) (F0 : ex3 Z h0 pa1) (F1 : fd6 Z h0 pa1 (.int 0)) (F2 : fd7 Z h0 pa1 (.int 0)) (F3 : fd8 Z h0 pa1 (.int 0)) (F4 : fd5 Z h0 pa1 (.ref pa3)) (F5 : ex1 Z h0 pa2) (F6 : fd1 Z h0 pa2 (.int 1)) (F7 : fd0 Z h0 pa2 (.ref pa4)) (F8 : av0 Z h0 pa3 pk1 16 ps_pa3) (F9 : av0 Z h0 pa4 pk2 6 [.int pi1, .int pi2, .int pi3, .int pi4, .int pi5, .int pi6]) (ne : NE pa1 pa2 ∧ NE pa1 pa3 ∧ NE pa1 pa4 ∧ n0 ≤ pa1) : M12 l Z 8 1 32 116 #[.ref pa1, .ref pa2] h0 n0 [pa1] [] (Q69 Z pa1 pi1 pi2 pi3 pi4 pi5 pi6 h0) := by
  refine mi B12 ef8 (hEW G) fun s X0 hsf0 n0le => ?_
  have := F0.l
  have := F5.l
  have := F8.l
  have := F9.l
  refine oA 1 X0 d12_0 rfl rfl <| ifnonnullYesJ 9 X0 d12_1 (by decide) <| oA 10 X0 d12_9 rfl rfl <| mV 13 0 X0 F5 (rm_au127 G F5 F6 F7 F9) (u8 G) all0 d12_10 rfl rfl rfl lr (by decide) all0 ?_
  rintro _ _ _ _ X1 rfl K1 _ _
  refine oT 14 (l' := #[rr pa1, rr pa2, ii 3]) X1 d12_13 rfl rfl <| oA 15 X1 d12_14 rfl rfl <| oA 16 X1 d12_15 rfl rfl ?_
  have f2 := F2.k0 K1
  refine oF 19 X1 (w78 G) Via.refl f2 d12_16 rfl ?_
  intro _ X4
  refine oI 20 X4 d12_19 rfl rfl <| o_iadd 21 (v := 3) X4 d12_20 rfl (by decide) ?_
  have f5 := F1.k0 K1
  have f6 := F4.k0 K1
  have f7 := F8.k0 K1
  have f8 := F0.keep K1
  refine mV 24 0 X4 f8 (rm_au11 G f5 f6 f7 (by decide)) (u9 G) all0 d12_21 rfl rfl rfl lr (by decide) all0 ?_
  rintro _ _ _ _ X9 rfl K9 _ _
  refine oA 25 X9 d12_24 rfl rfl <| oA 26 X9 d12_25 rfl rfl ?_
  have f10 := f2.k0 K9
  refine oF 29 X9 (w78 G) Via.refl f10 d12_26 rfl ?_
  intro _ X12
  refine oA 30 X12 d12_29 rfl rfl ?_
  have f13 := f8.keep K9
  have f14 := f5.k0 K9
  have f15 := (F3.k0 K1).k0 K9
  have f16 := f6.k0 K9
  have f17 := (F5.keep K1).keep K9
  have f18 := (F6.k0 K1).k0 K9
  have f19 := (F7.k0 K1).k0 K9
  have f20 := f7.k0 K9
  have f21 := (F9.k0 K1).k0 K9
  refine mV 33 0 X12 f13 (rm_au129 G f13 f14 f10 f15 f16 f17 f18 f19 f20 f21 (by omega)) (u13 G) all0 d12_30 rfl rfl rfl lr (by decide) (aI (by omega) (by simp) all0) ?_
  rintro _ _ _ _ X22 ⟨xa1_23, xk1_24, rfl, q25, q26, q27, q28, q29, q30, q31, q32, _⟩ _ _ _
  refine oA 34 X22 d12_33 rfl rfl <| oD 35 X22 d12_34 rfl rfl <| oF 38 X22 (w78 G) Via.refl q27 d12_35 rfl ?_
  intro _ X35
  refine oI 39 X35 d12_38 rfl rfl <| o_iadd 40 (v := 3) X35 d12_39 rfl (by decide) <| oP 43 (v' := (.int 3)) X35 (w78 G) Via.refl q27 q25 (Or.inl (w79 G)) (w41 G) fd_4 rfl rfl d12_40 rfl (by omega) (Or.inl (by simp)) (sx X35 q25 nc1) ?_
  intro _ _ X36 W36 C36
  have := W36.size
  have f37 := q27.same W36
  refine oA 44 X36 d12_43 rfl rfl ?_
  have f38 := q25.wr W36
  have f39 := q26.other W36 (Or.inr (sn8 G))
  have f40 := q28.other W36 (Or.inr (sn9 G))
  have f41 := q29.other W36 (Or.inr (sn10 G))
  have f42 := q30.oth W36 (by omega)
  have f43 := q31.wr W36
  have f44 := C36.safe (own_lt (by omega)) q32
  exact oR X36 d12_44 rfl rfl rfl (by decide) (by decide) (fun _ CC => ⟨xa1_23, xk1_24, rfl, f38, f39, f37, f40, f41, f42, f43, (CC.safe (own_lt (by omega)) f44), by omega⟩)
theorem rm_au131 (G : GL l Z a0 zc fmt kpp) (F0 : ex3 Z h0 pa1) (F1 : fd6 Z h0 pa1 (.int 0)) (F2 : fd7 Z h0 pa1 (.int 0)) (F3 : fd8 Z h0 pa1 (.int 0)) (F4 : fd5 Z h0 pa1 (.ref pa3)) (F5 : ex1 Z h0 pa2) (F6 : fd1 Z h0 pa2 (.int 1)) (F7 : fd0 Z h0 pa2 (.ref pa4)) (F8 : av0 Z h0 pa3 pk1 16 ps_pa3) (F9 : av0 Z h0 pa4 pk2 6 [.int pi1, .int pi2, .int pi3, .int pi4, .int pi5, .int pi6]) (ne : NE pa1 pa2 ∧ NE pa1 pa3 ∧ NE pa1 pa4 ∧ n0 ≤ pa1) : M11 l Z 9 1 32 130 #[.ref pa1, .ref pa2] h0 n0 [pa1] [] (Q69 Z pa1 pi1 pi2 pi3 pi4 pi5 pi6 h0) := by
  refine mi B11 ef3 (hEW G) fun s X0 hsf0 n0le => ?_
  have := F0.l
  have := F5.l
  have := F8.l
  have := F9.l
  refine oA 1 X0 d11_0 rfl rfl <| oA 2 X0 d11_1 rfl rfl <| mU 5 0 X0 F0 (rm_au130 G F0 F1 F2 F3 F4 F5 F6 F7 F8 F9 (by omega)) (u14 G) all0 d11_2 rfl rfl rfl lr (by decide) (aI (by omega) (by simp) all0) ?_
  rintro _ _ _ _ X1 ⟨xa1_2, xk1_3, rfl, q4, q5, q6, q7, q8, q9, q10, q11, _⟩ _ _ _
  refine o_pop 6 X1 d11_5 rfl rfl <| oA 7 X1 d11_6 rfl rfl ?_
  exact oR X1 d11_7 rfl rfl rfl (by decide) (by decide) (fun _ CC => ⟨xa1_2, xk1_3, rfl, q4, q5, q6, q7, q8, q9, q10, (CC.safe (own_lt (by omega)) q11), by omega⟩)
def Q70 (Z : State) (b1 : Addr) (b2 : ClassId) (b3 b4 b5 b6 b7 b8 : Int32) (h0 : Heap) (v : Option Value) (h : Heap) (vm : Vm) : Prop := v = none ∧ av0 Z h b1 b2 32 [.int b3, .int b4, .int b5, .int b6, .int b7, .int b8, .int 47, i0, .int 42, i0, i0, i0, i0, i0, i0, i0, i0, i0, i0, i0, i0, i0, i0, i0, i0, i0, i0, i0, i0, i0, i0, i0] ∧ ex0 Z h b1
theorem rm_au132 (G : GL l Z a0 zc fmt kpp) (F0 : av0 Z h0 pa1 pk1 2 [.int 47, .int 42]) (F1 : av0 Z h0 pa2 pk2 32 [.int pi1, .int pi2, .int pi3, .int pi4, .int pi5, .int pi6, i0, i0, i0, i0, i0, i0, i0, i0, i0, i0, i0, i0, i0, i0, i0, i0, i0, i0, i0, i0, i0, i0, i0, i0, i0, i0]) (F2 : ex0 Z h0 pa2) (ne : NE pa1 pa2 ∧ n0 ≤ pa2) : M41 l Z 3 0 0 43 #[.ref pa1, i0, .ref pa2, .int 3, .int 2] h0 n0 [pa2] [pa2] (Q70 Z pa2 pk2 pi1 pi2 pi3 pi4 pi5 pi6 h0) := by
  refine mi B41 ef19 (hEW G) fun s X0 hsf0 n0le => ?_
  have := F0.l
  have := F1.l
  have sf_pa2 := hsf0 pa2 (by simp)
  refine oI 1 X0 d41_0 rfl rfl <| oi 3 X0 d41_1 rfl rfl <| oA 4 X0 d41_3 rfl rfl <| mS 7 0 X0 (rm_au64 G F1 (by decide) (by decide)) (u44 G) all0 d41_4 rfl rfl rfl lr (by decide) all0 ?_
  rintro _ _ _ _ X1 rfl K1 _ C1
  refine oc 8 (v := 0) X1 d41_7 rfl (by decide) <| oS 10 (l' := #[rr pa1, ii 0, rr pa2, ii 3, ii 2, ii 0]) X1 d41_8 rfl rfl <| oi 12 X1 d41_10 rfl rfl <| oi 14 X1 d41_12 rfl rfl <| oN 17 X1 d41_14 rfl (tlt (by decide)).2.1 <| oA 18 X1 d41_17 rfl rfl <| oI 19 X1 d41_18 rfl rfl <| oJ 22 4 #[rr pa1, ii 0, rr pa2, ii 4, ii 2, ii 0] X1 d41_19 rfl rfl (by decide) rfl <| oA 23 X1 d41_22 rfl rfl <| oI 24 X1 d41_23 rfl rfl <| oJ 27 1 #[rr pa1, ii 1, rr pa2, ii 4, ii 2, ii 0] X1 d41_24 rfl rfl (by decide) rfl ?_
  have f2 := F0.k0 K1
  refine oB 28 (v := (.int 47)) X1 f2 ⟨by decide, by decide⟩ rfl d41_27 rfl <| o_sipush 31 (v := 255) X1 d41_28 rfl (by decide) <| o_iand 32 (v := 47) X1 d41_31 rfl (by decide) ?_
  have f3 := F2.keep K1
  have f4 := F1.k0 K1
  have f5 := C1.safe (own_lt (by omega)) sf_pa2
  refine mS 35 0 X1 (rm_putChar G f3 f4 ⟨by decide, by decide⟩ ⟨by decide, by decide⟩ (Nat.le_of_ble_eq_true rfl) (Nat.le_of_ble_eq_true rfl) (by omega)) (u36 G) (sS (by omega) f5 all0) d41_32 rfl rfl rfl lr (by decide) (aI (by omega) (by simp) all0) ?_
  rintro _ _ _ _ X6 ⟨rfl, q7, q8⟩ K6 _ C6
  have V9 := q8.as [.int pi1, .int pi2, .int pi3, .int pi4, .int pi5, .int pi6, .int 47, i0, i0, i0, i0, i0, i0, i0, i0, i0, i0, i0, i0, i0, i0, i0, i0, i0, i0, i0, i0, i0, i0, i0, i0, i0] rfl
  refine oJ 38 1 #[rr pa1, ii 1, rr pa2, ii 4, ii 2, ii 1] X6 d41_35 rfl rfl (by decide) rfl <| og 10 X6 d41_38 (by decide) <| oi 12 X6 d41_10 rfl rfl <| oi 14 X6 d41_12 rfl rfl <| oN 17 X6 d41_14 rfl (tlt (by decide)).2.1 <| oA 18 X6 d41_17 rfl rfl <| oI 19 X6 d41_18 rfl rfl <| oJ 22 5 #[rr pa1, ii 1, rr pa2, ii 5, ii 2, ii 1] X6 d41_19 rfl rfl (by decide) rfl <| oA 23 X6 d41_22 rfl rfl <| oI 24 X6 d41_23 rfl rfl <| oJ 27 2 #[rr pa1, ii 2, rr pa2, ii 5, ii 2, ii 1] X6 d41_24 rfl rfl (by decide) rfl ?_
  have f10 := f2.k1 K6 (by omega)
  refine oB 28 (v := (.int 42)) X6 f10 ⟨by decide, by decide⟩ rfl d41_27 rfl <| o_sipush 31 (v := 255) X6 d41_28 rfl (by decide) <| o_iand 32 (v := 42) X6 d41_31 rfl (by decide) ?_
  have f11 := C6.safe (own_lt (by omega)) f5
  refine mS 35 0 X6 (rm_putChar G q7 V9 ⟨by decide, by decide⟩ ⟨by decide, by decide⟩ (Nat.le_of_ble_eq_true rfl) (Nat.le_of_ble_eq_true rfl) (by omega)) (u36 G) (sS (by omega) f11 all0) d41_32 rfl rfl rfl lr (by decide) (aI (by omega) (by simp) all0) ?_
  rintro _ _ _ _ X12 ⟨rfl, q13, q14⟩ _ _ _
  have V15 := q14.as [.int pi1, .int pi2, .int pi3, .int pi4, .int pi5, .int pi6, .int 47, i0, .int 42, i0, i0, i0, i0, i0, i0, i0, i0, i0, i0, i0, i0, i0, i0, i0, i0, i0, i0, i0, i0, i0, i0, i0] rfl
  refine oJ 38 2 #[rr pa1, ii 2, rr pa2, ii 5, ii 2, ii 2] X12 d41_35 rfl rfl (by decide) rfl <| og 10 X12 d41_38 (by decide) <| oi 12 X12 d41_10 rfl rfl <| oi 14 X12 d41_12 rfl rfl <| oY 41 X12 d41_14 (by decide) (flt (by decide)).2.1 ?_
  exact oz X12 d41_41 rfl (by decide) (by decide) (fun _ CC => ⟨rfl, V15, q13⟩)
theorem rm_au133 (G : GL l Z a0 zc fmt kpp) (F0 : av0 Z h0 pa1 pk1 2 [.int 47, .int 42]) (F1 : av0 Z h0 pa2 pk2 32 [.int pi1, .int pi2, .int pi3, .int pi4, .int pi5, .int pi6, i0, i0, i0, i0, i0, i0, i0, i0, i0, i0, i0, i0, i0, i0, i0, i0, i0, i0, i0, i0, i0, i0, i0, i0, i0, i0]) (F2 : ex0 Z h0 pa2) (ne : NE pa1 pa2 ∧ n0 ≤ pa2) : M40 l Z 4 0 0 60 #[.ref pa1, i0, .ref pa2, .int 3, .int 2] h0 n0 [pa2] [pa2] (Q70 Z pa2 pk2 pi1 pi2 pi3 pi4 pi5 pi6 h0) := by
  refine mi B40 ef18 (hEW G) fun s X0 hsf0 n0le => ?_
  have := F0.l
  have := F1.l
  have sf_pa2 := hsf0 pa2 (by simp)
  refine oA 1 X0 d40_0 rfl rfl <| oI 2 X0 d40_1 rfl rfl <| oA 3 X0 d40_2 rfl rfl <| oI 4 X0 d40_3 rfl rfl <| oi 6 X0 d40_4 rfl rfl <| mS 9 0 X0 (rm_au132 G F0 F1 F2 (by omega)) (u45 G) (sS (by omega) sf_pa2 all0) d40_6 rfl rfl rfl lr (by decide) (aI (by omega) (by simp) all0) ?_
  rintro _ _ _ _ X1 ⟨rfl, q2, q3⟩ _ _ _
  exact oz X1 d40_9 rfl (by decide) (by decide) (fun _ CC => ⟨rfl, q2, q3⟩)
theorem rm_au134 (G : GL l Z a0 zc fmt kpp) (F0 : ex1 Z h0 pa1) (F1 : fd1 Z h0 pa1 (.int 0)) (F2 : fd0 Z h0 pa1 (.ref pa3)) (F3 : av0 Z h0 pa2 pk1 32 [.int pi1, .int pi2, .int pi3, .int pi4, .int pi5, .int pi6, i0, i0, i0, i0, i0, i0, i0, i0, i0, i0, i0, i0, i0, i0, i0, i0, i0, i0, i0, i0, i0, i0, i0, i0, i0, i0]) (F4 : ex0 Z h0 pa2) (F5 : av0 Z h0 pa3 pk2 2 [.int 47, .int 42]) (ne : NE pa1 pa2 ∧ NE pa2 pa3 ∧ n0 ≤ pa2) : M18 l Z 5 0 0 76 #[.ref pa1, .ref pa2, .int 3, .int 1] h0 n0 [pa2] [pa2] (Q70 Z pa2 pk1 pi1 pi2 pi3 pi4 pi5 pi6 h0) := by
  refine mi B18 ef11 (hEW G) fun s X0 hsf0 n0le => ?_
  have := F0.l
  have := F3.l
  have := F5.l
  have sf_pa2 := hsf0 pa2 (by simp)
  refine oA 1 X0 d18_0 rfl rfl <| mV 4 0 X0 F0 (rm_au9 G F1) (u7 G) all0 d18_1 rfl rfl rfl lr (by decide) all0 ?_
  rintro _ _ _ _ X1 rfl K1 _ C1
  refine oI 5 X1 d18_4 rfl rfl <| oY 28 X1 d18_5 (by decide) (feq (by decide)).2 <| oA 29 X1 d18_28 rfl rfl ?_
  have f2 := F2.k0 K1
  refine oF 32 X1 (w21 G) Via.refl f2 d18_29 rfl ?_
  intro _ X4
  refine oc 33 (v := 0) X4 d18_32 rfl (by decide) <| oA 34 X4 d18_33 rfl rfl <| oI 35 X4 d18_34 rfl rfl <| oA 36 X4 d18_35 rfl rfl <| oF 39 X4 (w21 G) Via.refl f2 d18_36 rfl ?_
  intro _ X6
  have f7 := F5.k0 K1
  refine oL 40 X6 f7 d18_39 rfl ?_
  have f8 := F3.k0 K1
  have f9 := F4.keep K1
  have f10 := C1.safe (own_lt (by omega)) sf_pa2
  refine mS 43 0 X6 (rm_au133 G f7 f8 f9 (by omega)) (u48 G) (sS (by omega) f10 all0) d18_40 rfl rfl rfl lr (by decide) (aI (by omega) (by simp) all0) ?_
  rintro _ _ _ _ X11 ⟨rfl, q12, q13⟩ _ _ _
  exact oz X11 d18_43 rfl (by decide) (by decide) (fun _ CC => ⟨rfl, q12, q13⟩)
theorem rm_au135 (G : GL l Z a0 zc fmt kpp) (F0 : ex3 Z h0 pa1) (F1 : fd6 Z h0 pa1 (.int 1)) (F2 : fd5 Z h0 pa1 (.ref pa3)) (F3 : ex1 Z h0 pa2) (F4 : fd1 Z h0 pa2 (.int 0)) (F5 : fd0 Z h0 pa2 (.ref pa4)) (F6 : av0 Z h0 pa3 pk1 32 [.int pi1, .int pi2, .int pi3, .int pi4, .int pi5, .int pi6, i0, i0, i0, i0, i0, i0, i0, i0, i0, i0, i0, i0, i0, i0, i0, i0, i0, i0, i0, i0, i0, i0, i0, i0, i0, i0]) (F7 : ex0 Z h0 pa3) (F8 : av0 Z h0 pa4 pk2 2 [.int 47, .int 42]) (ne : NE pa1 pa3 ∧ NE pa2 pa3 ∧ NE pa3 pa4 ∧ n0 ≤ pa3) : M16 l Z 6 0 0 91 #[.ref pa1, .int 3, .ref pa2] h0 n0 [pa3] [pa3] (Q70 Z pa3 pk1 pi1 pi2 pi3 pi4 pi5 pi6 h0) := by
  refine mi B16 ef10 (hEW G) fun s X0 hsf0 n0le => ?_
  have := F0.l
  have := F3.l
  have := F6.l
  have := F8.l
  have sf_pa3 := hsf0 pa3 (by simp)
  refine oA 1 X0 d16_0 rfl rfl <| oA 2 X0 d16_1 rfl rfl <| mV 5 0 X0 F0 (rm_au75 G F0 F1 F3 F4) (u11 G) all0 d16_2 rfl rfl rfl lr (by decide) all0 ?_
  rintro _ _ _ _ X1 rfl K1 _ C1
  refine oA 6 X1 d16_5 rfl rfl <| oA 7 X1 d16_6 rfl rfl ?_
  have f2 := F2.k0 K1
  refine oF 10 X1 (w54 G) Via.refl f2 d16_7 rfl ?_
  intro _ X4
  refine oI 11 X4 d16_10 rfl rfl <| oA 12 X4 d16_11 rfl rfl ?_
  have f5 := F1.k0 K1
  refine oF 15 X4 (w56 G) Via.refl f5 d16_12 rfl ?_
  intro _ X7
  have f8 := F3.keep K1
  have f9 := F4.k0 K1
  have f10 := F5.k0 K1
  have f11 := F6.k0 K1
  have f12 := F7.keep K1
  have f13 := F8.k0 K1
  have f14 := C1.safe (own_lt (by omega)) sf_pa3
  refine mV 18 0 X7 f8 (rm_au134 G f8 f9 f10 f11 f12 f13 (by omega)) (u12 G) (sS (by omega) f14 all0) d16_15 rfl rfl rfl lr (by decide) (aI (by omega) (by simp) all0) ?_
  rintro _ _ _ _ X15 ⟨rfl, q16, q17⟩ _ _ _
  exact oz X15 d16_18 rfl (by decide) (by decide) (fun _ CC => ⟨rfl, q16, q17⟩)
def Q71 (Z : State) (b1 b2 : Addr) (b3 : ClassId) (b4 b5 b6 b7 b8 b9 : Int32) (h0 : Heap) (v : Option Value) (h : Heap) (vm : Vm) : Prop := v = some (.ref b1) ∧ ex3 Z h b1 ∧ fd6 Z h b1 (.int 1) ∧ fd7 Z h b1 (.int 5) ∧ fd8 Z h b1 (.int 0) ∧ fd5 Z h b1 (.ref b2) ∧ av0 Z h b2 b3 32 [.int b4, .int b5, .int b6, .int b7, .int b8, .int b9, .int 47, i0, .int 42, i0, i0, i0, i0, i0, i0, i0, i0, i0, i0, i0, i0, i0, i0, i0, i0, i0, i0, i0, i0, i0, i0, i0] ∧ ex0 Z h b2
theorem rm_au136 (G : GL l Z a0 zc fmt kpp) (F0 : ex3 Z h0 pa1) (F1 : fd6 Z h0 pa1 (.int 1)) (F2 : fd7 Z h0 pa1 (.int 3)) (F3 : fd8 Z h0 pa1 (.int 0)) (F4 : fd5 Z h0 pa1 (.ref pa3)) (F5 : ex1 Z h0 pa2) (F6 : fd1 Z h0 pa2 (.int 0)) (F7 : fd0 Z h0 pa2 (.ref pa4)) (F8 : av0 Z h0 pa3 pk1 32 [.int pi1, .int pi2, .int pi3, .int pi4, .int pi5, .int pi6, i0, i0, i0, i0, i0, i0, i0, i0, i0, i0, i0, i0, i0, i0, i0, i0, i0, i0, i0, i0, i0, i0, i0, i0, i0, i0]) (F9 : ex0 Z h0 pa3) (F10 : av0 Z h0 pa4 pk2 2 [.int 47, .int 42]) (ne : NE pa1 pa2 ∧ NE pa1 pa3 ∧ NE pa1 pa4 ∧ NE pa2 pa3 ∧ NE pa3 pa4 ∧ n0 ≤ pa1 ∧ n0 ≤ pa3) : M12 l Z 7 0 0 105 #[.ref pa1, .ref pa2] h0 n0 [pa1, pa3] [pa3] (Q71 Z pa1 pa3 pk1 pi1 pi2 pi3 pi4 pi5 pi6 h0) := by
  refine mi B12 ef8 (hEW G) fun s X0 hsf0 n0le => ?_
  have := F0.l
  have := F5.l
  have := F8.l
  have := F10.l
  have sf_pa3 := hsf0 pa3 (by simp)
  refine oA 1 X0 d12_0 rfl rfl <| ifnonnullYesJ 9 X0 d12_1 (by decide) <| oA 10 X0 d12_9 rfl rfl <| mV 13 0 X0 F5 (rm_au17 G F5 F6 F7 F10) (u8 G) all0 d12_10 rfl rfl rfl lr (by decide) all0 ?_
  rintro _ _ _ _ X1 rfl K1 _ C1
  refine oT 14 (l' := #[rr pa1, rr pa2, ii 2]) X1 d12_13 rfl rfl <| oA 15 X1 d12_14 rfl rfl <| oA 16 X1 d12_15 rfl rfl ?_
  have f2 := F2.k0 K1
  refine oF 19 X1 (w78 G) Via.refl f2 d12_16 rfl ?_
  intro _ X4
  refine oI 20 X4 d12_19 rfl rfl <| o_iadd 21 (v := 5) X4 d12_20 rfl (by decide) ?_
  have f5 := F1.k0 K1
  have f6 := F4.k0 K1
  have f7 := F8.k0 K1
  have f8 := F0.keep K1
  refine mV 24 0 X4 f8 (rm_au11 G f5 f6 f7 (by decide)) (u9 G) all0 d12_21 rfl rfl rfl lr (by decide) all0 ?_
  rintro _ _ _ _ X9 rfl K9 _ C9
  refine oA 25 X9 d12_24 rfl rfl <| oA 26 X9 d12_25 rfl rfl ?_
  have f10 := f2.k0 K9
  refine oF 29 X9 (w78 G) Via.refl f10 d12_26 rfl ?_
  intro _ X12
  refine oA 30 X12 d12_29 rfl rfl ?_
  have f13 := f8.keep K9
  have f14 := f5.k0 K9
  have f15 := f6.k0 K9
  have f16 := (F5.keep K1).keep K9
  have f17 := (F6.k0 K1).k0 K9
  have f18 := (F7.k0 K1).k0 K9
  have f19 := f7.k0 K9
  have f20 := (F9.keep K1).keep K9
  have f21 := (F10.k0 K1).k0 K9
  have f22 := C9.safe (own_lt (by omega)) (C1.safe (own_lt (by omega)) sf_pa3)
  refine mV 33 0 X12 f13 (rm_au135 G f13 f14 f15 f16 f17 f18 f19 f20 f21 (by omega)) (u13 G) (sS (by omega) f22 all0) d12_30 rfl rfl rfl lr (by decide) (aI (by omega) (by simp) all0) ?_
  rintro _ _ _ _ X23 ⟨rfl, q24, q25⟩ K23 _ _
  refine oA 34 X23 d12_33 rfl rfl <| oD 35 X23 d12_34 rfl rfl ?_
  have f26 := f10.k1 K23 (by omega)
  refine oF 38 X23 (w78 G) Via.refl f26 d12_35 rfl ?_
  intro _ X28
  refine oI 39 X28 d12_38 rfl rfl <| o_iadd 40 (v := 5) X28 d12_39 rfl (by decide) ?_
  have f29 := f13.keep K23
  refine oP 43 (v' := (.int 5)) X28 (w78 G) Via.refl f26 f29 (Or.inl (w79 G)) (w41 G) fd_4 rfl rfl d12_40 rfl (by omega) (Or.inl (by simp)) (sx X28 f29 nc1) ?_
  intro _ _ X30 W30 _
  have := W30.size
  have f31 := f26.same W30
  refine oA 44 X30 d12_43 rfl rfl ?_
  have f32 := f29.wr W30
  have f33 := (f14.k1 K23 (by omega)).other W30 (Or.inr (sn8 G))
  have f34 := (((F3.k0 K1).k0 K9).k1 K23 (by omega)).other W30 (Or.inr (sn9 G))
  have f35 := (f15.k1 K23 (by omega)).other W30 (Or.inr (sn10 G))
  have f36 := q24.oth W30 (by omega)
  have f37 := q25.wr W30
  exact oR X30 d12_44 rfl rfl rfl (by decide) (by decide) (fun _ CC => ⟨rfl, f32, f33, f31, f34, f35, f36, f37⟩)
theorem rm_au137 (G : GL l Z a0 zc fmt kpp) (F0 : ex3 Z h0 pa1) (F1 : fd6 Z h0 pa1 (.int 1)) (F2 : fd7 Z h0 pa1 (.int 3)) (F3 : fd8 Z h0 pa1 (.int 0)) (F4 : fd5 Z h0 pa1 (.ref pa3)) (F5 : ex1 Z h0 pa2) (F6 : fd1 Z h0 pa2 (.int 0)) (F7 : fd0 Z h0 pa2 (.ref pa4)) (F8 : av0 Z h0 pa3 pk1 32 [.int pi1, .int pi2, .int pi3, .int pi4, .int pi5, .int pi6, i0, i0, i0, i0, i0, i0, i0, i0, i0, i0, i0, i0, i0, i0, i0, i0, i0, i0, i0, i0, i0, i0, i0, i0, i0, i0]) (F9 : ex0 Z h0 pa3) (F10 : av0 Z h0 pa4 pk2 2 [.int 47, .int 42]) (ne : NE pa1 pa2 ∧ NE pa1 pa3 ∧ NE pa1 pa4 ∧ NE pa2 pa3 ∧ NE pa3 pa4 ∧ n0 ≤ pa1 ∧ n0 ≤ pa3) : M11 l Z 8 0 0 119 #[.ref pa1, .ref pa2] h0 n0 [pa1, pa3] [pa3] (Q71 Z pa1 pa3 pk1 pi1 pi2 pi3 pi4 pi5 pi6 h0) := by
  refine mi B11 ef3 (hEW G) fun s X0 hsf0 n0le => ?_
  have := F0.l
  have := F5.l
  have := F8.l
  have := F10.l
  have sf_pa3 := hsf0 pa3 (by simp)
  refine oA 1 X0 d11_0 rfl rfl <| oA 2 X0 d11_1 rfl rfl <| mU 5 0 X0 F0 (rm_au136 G F0 F1 F2 F3 F4 F5 F6 F7 F8 F9 F10 (by omega)) (u14 G) (sS (by omega) sf_pa3 all0) d11_2 rfl rfl rfl lr (by decide) (aI (by omega) (by simp) (aI (by omega) (by simp) all0)) ?_
  rintro _ _ _ _ X1 ⟨rfl, q2, q3, q4, q5, q6, q7, q8⟩ _ _ _
  refine o_pop 6 X1 d11_5 rfl rfl <| oA 7 X1 d11_6 rfl rfl ?_
  exact oR X1 d11_7 rfl rfl rfl (by decide) (by decide) (fun _ CC => ⟨rfl, q2, q3, q4, q5, q6, q7, q8⟩)
def Q72 (Z : State) (b1 b2 b3 b4 b5 b6 : Int32) (h0 : Heap) (v : Option Value) (h : Heap) (vm : Vm) : Prop := ∃ (xa1 : Addr) (xk1 : ClassId), v = some (.ref xa1) ∧ av0 Z h xa1 xk1 10 [.int b1, .int b2, .int b3, .int b4, .int b5, .int b6, .int 47, i0, .int 42, i0] ∧ ex0 Z h xa1 ∧ Safe Z EL0 vm h xa1 ∧ h0.size ≤ xa1 ∧ h.size > xa1
theorem rm_au138 (G : GL l Z a0 zc fmt kpp) (F0 : av0 Z h0 pa1 pk1 32 [.int pi1, .int pi2, .int pi3, .int pi4, .int pi5, .int pi6, .int 47, i0, .int 42, i0, i0, i0, i0, i0, i0, i0, i0, i0, i0, i0, i0, i0, i0, i0, i0, i0, i0, i0, i0, i0, i0, i0]) : M27 l Z 1 1 10 40 #[.ref pa1, i0, .int 10] h0 n0 [] [] (Q72 Z pi1 pi2 pi3 pi4 pi5 pi6 h0) := by
  refine mi B27 ef13 (hEW G) fun s X0 hsf0 n0le => ?_
  have := F0.l
  refine oI 1 X0 d27_0 rfl rfl <| oI 2 X0 d27_1 rfl rfl <| mS 5 0 X0 (rm_au26 G (by decide)) (u20 G) all0 d27_2 rfl rfl rfl lr (by decide) all0 ?_
  rintro _ _ _ _ X1 rfl K1 _ _
  refine oI 6 X1 d27_5 rfl rfl <| oI 7 X1 d27_6 rfl rfl <| o_isub 8 (v := 10) X1 d27_7 rfl (by decide) <| oT 9 (l' := #[rr pa1, ii 0, ii 10, ii 10, uu]) X1 d27_8 rfl rfl <| oI 10 X1 d27_9 rfl rfl <| nP (aty := .byte) 12 10 X1 (w16 G) d27_10 rfl (by decide) had_byte ?_
  intro _ h2 b2 k2 X2 _ _ E2 V2 A2 _ S2
  have V3 : av0 Z h2 b2 k2 10 [i0, i0, i0, i0, i0, i0, i0, i0, i0, i0] := V2.pad (pad_rep [] (.int (0 : Int32)) 10)
  refine oU 14 (l' := #[rr pa1, ii 0, ii 10, ii 10, rr b2]) X2 d27_12 rfl rfl rfl <| oA 15 X2 d27_14 rfl rfl <| oI 16 X2 d27_15 rfl rfl <| oa 18 X2 d27_16 rfl rfl <| oc 19 (v := 0) X2 d27_18 rfl (by decide) <| oA 20 X2 d27_19 rfl rfl ?_
  have f4 := (F0.k0 K1).ext E2
  refine oL 21 X2 f4 d27_20 rfl <| oI 22 X2 d27_21 rfl rfl <| o_isub 23 (v := 32) X2 d27_22 rfl (by decide) <| oI 24 X2 d27_23 rfl rfl <| mS 27 4 X2 (rm_au27 G (by decide)) (u21 G) all0 d27_24 rfl rfl rfl lr (by decide) all0 ?_
  rintro _ _ _ _ X5 rfl K5 _ C5
  have f6 := f4.k0 K5
  have f7 := V3.k0 K5
  have f8 := C5.safe (own_lt (by omega)) S2
  refine o_cp 30 (us := [.int pi1, .int pi2, .int pi3, .int pi4, .int pi5, .int pi6, .int 47, i0, .int 42, i0]) (vr := [.int pi1, .int pi2, .int pi3, .int pi4, .int pi5, .int pi6, .int 47, i0, .int 42, i0]) (W := 0) X5 (w150 G) (w104 G) (w102 G) (w103 G) f6 f7 (Or.inl ⟨rfl, rfl⟩) (by decide) (by decide) (by decide) (by decide) (by decide) rfl (Nat.le_of_ble_eq_true rfl) rfl d27_27 rfl rfl (by decide) (Nat.le_of_eq rfl) (by decide) (by omega) (Or.inr (by omega)) f8 ?_
  intro _ _ X9 K9 C9 V9
  have := K9.1
  refine oa 32 X9 d27_30 rfl rfl ?_
  have f10 := (A2.keep K5).keep K9
  have f11 := C9.safe (own_lt (by omega)) f8
  exact oR X9 d27_32 rfl rfl rfl (by decide) (by decide) (fun _ CC => ⟨b2, k2, rfl, V9, f10, (CC.safe (own_lt (by omega)) f11), by omega⟩)
theorem rm_au139 (G : GL l Z a0 zc fmt kpp) (F0 : av0 Z h0 pa1 pk1 32 [.int pi1, .int pi2, .int pi3, .int pi4, .int pi5, .int pi6, .int 47, i0, .int 42, i0, i0, i0, i0, i0, i0, i0, i0, i0, i0, i0, i0, i0, i0, i0, i0, i0, i0, i0, i0, i0, i0, i0]) : M26 l Z 2 1 10 56 #[.ref pa1, i0, .int 10] h0 n0 [] [] (Q72 Z pi1 pi2 pi3 pi4 pi5 pi6 h0) := by
  refine mi B26 ef0 (hEW G) fun s X0 hsf0 n0le => ?_
  have := F0.l
  refine oI 1 X0 d26_0 rfl rfl <| on 4 X0 d26_1 rfl ((if0 _ _).trans (teq (by decide)).2) <| oI 5 X0 d26_4 rfl rfl <| oA 6 X0 d26_5 rfl rfl <| oL 7 X0 F0 d26_6 rfl <| oN 10 X0 d26_7 rfl (feq (by decide)).1 <| oA 11 X0 d26_10 rfl rfl <| oI 12 X0 d26_11 rfl rfl <| oI 13 X0 d26_12 rfl rfl <| mS 16 0 X0 (rm_au138 G F0) (u22 G) all0 d26_13 rfl rfl rfl lr (by decide) all0 ?_
  rintro _ _ _ _ X1 ⟨xa1_2, xk1_3, rfl, q4, q5, q6, _⟩ _ _ _
  exact oR X1 d26_16 rfl rfl rfl (by decide) (by decide) (fun _ CC => ⟨xa1_2, xk1_3, rfl, q4, q5, (CC.safe (own_lt (by omega)) q6), by omega⟩)
def Q73 (Z : State) (b1 : Addr) (b2 b3 b4 b5 b6 b7 : Int32) (h0 : Heap) (v : Option Value) (h : Heap) (vm : Vm) : Prop := ∃ (xa1 : Addr) (xk1 : ClassId), v = none ∧ ex1 Z h b1 ∧ fd1 Z h b1 (.int 1) ∧ fd0 Z h b1 (.ref xa1) ∧ av0 Z h xa1 xk1 10 [.int b2, .int b3, .int b4, .int b5, .int b6, .int b7, .int 47, i0, .int 42, i0] ∧ ex0 Z h xa1 ∧ Safe Z EL0 vm h xa1 ∧ h0.size ≤ xa1 ∧ h.size > xa1
theorem rm_au140 (G : GL l Z a0 zc fmt kpp) (F0 : ex1 Z h0 pa1) (F1 : fd1 Z h0 pa1 (.int 0)) (F2 : fd0 Z h0 pa1 .null) (F3 : ex3 Z h0 pa2) (F4 : fd6 Z h0 pa2 (.int 1)) (F5 : fd7 Z h0 pa2 (.int 5)) (F6 : fd8 Z h0 pa2 (.int 0)) (F7 : fd5 Z h0 pa2 (.ref pa3)) (F8 : av0 Z h0 pa3 pk1 32 [.int pi1, .int pi2, .int pi3, .int pi4, .int pi5, .int pi6, .int 47, i0, .int 42, i0, i0, i0, i0, i0, i0, i0, i0, i0, i0, i0, i0, i0, i0, i0, i0, i0, i0, i0, i0, i0, i0, i0]) (ne : NE pa1 pa2 ∧ NE pa1 pa3 ∧ n0 ≤ pa1) : M21 l Z 3 1 10 71 #[.ref pa1, .ref pa2, .null] h0 n0 [pa1] [pa1] (Q73 Z pa1 pi1 pi2 pi3 pi4 pi5 pi6 h0) := by
  refine mi B21 ef12 (hEW G) fun s X0 hsf0 n0le => ?_
  have := F0.l
  have := F3.l
  have := F8.l
  have sf_pa1 := hsf0 pa1 (by simp)
  refine oA 1 X0 d21_0 rfl rfl <| o_initO 4 (W := 0) X0 (w12 G) (w13 G) (w14 G) rfl (by decide) (Nat.le_of_eq rfl) (by decide) d21_1 rfl ?_
  intro _ X2
  refine oA 5 X2 d21_4 rfl rfl <| mV 8 0 X2 F3 (rm_au22 G F7) (u16 G) all0 d21_5 rfl rfl rfl lr (by decide) all0 ?_
  rintro _ _ _ _ X3 rfl K3 _ C3
  refine oV 9 (l' := #[rr pa1, rr pa2, .val .null, rr pa3, uu]) X3 d21_8 rfl rfl rfl <| oA 10 X3 d21_9 rfl rfl ?_
  have f4 := F3.keep K3
  have f5 := F5.k0 K3
  refine mV 13 0 X3 f4 (rm_au24 G f4 f5) (u18 G) all0 d21_10 rfl rfl rfl lr (by decide) all0 ?_
  rintro _ _ _ _ X6 rfl K6 _ C6
  refine oS 15 (l' := #[rr pa1, rr pa2, .val .null, rr pa3, ii 5]) X6 d21_13 rfl rfl <| oA 16 X6 d21_15 rfl rfl ?_
  have f7 := (F4.k0 K3).k0 K6
  have f8 := f4.keep K6
  refine mV 19 0 X6 f8 (rm_au73 G f7 (by decide)) (u19 G) all0 d21_16 rfl rfl rfl lr (by decide) all0 ?_
  rintro _ _ _ _ X9 rfl K9 _ C9
  refine oy 41 X9 d21_19 (by decide) ((if0 _ _).trans (teq (by decide)).1) <| oG 44 X9 (w23 G) Via.refl ((sg5 G).ext X9.old.2) d21_41 rfl ?_
  intro _ X11
  refine on 47 X11 d21_44 rfl ((if0 _ _).trans (feq (hzc G)).1) <| oA 48 X11 d21_47 rfl rfl ?_
  have f12 := ((F6.k0 K3).k0 K6).k0 K9
  refine oF 51 X11 (w237 G) Via.refl f12 d21_48 rfl ?_
  intro _ X14
  refine oy 79 X14 d21_51 (by decide) ((if0 _ _).trans (teq (by decide)).1) <| oA 80 X14 d21_79 rfl rfl <| oc 81 (v := 1) X14 d21_80 rfl (by decide) ?_
  have f15 := ((F1.k0 K3).k0 K6).k0 K9
  have f16 := ((F0.keep K3).keep K6).keep K9
  have f18 := C9.safe (own_lt (by omega)) (C6.safe (own_lt (by omega)) (C3.safe (own_lt (by omega)) sf_pa1))
  refine oP 84 (v' := (.int 1)) X14 (w22 G) Via.refl f15 f16 (Or.inr ⟨(w18 G), rfl, rfl⟩) (w2 G) fd_1 rfl rfl d21_81 rfl (by omega) (Or.inl (by simp)) f18 ?_
  intro _ _ X17 W17 C17
  have := W17.size
  have f19 := f15.same W17
  refine oA 85 X17 d21_84 rfl rfl <| oA 86 X17 d21_85 rfl rfl <| oc 87 (v := 0) X17 d21_86 rfl (by decide) <| oi 89 X17 d21_87 rfl rfl <| oc 90 (v := 1) X17 d21_89 rfl (by decide) <| o_ishl 91 (v := 10) X17 d21_90 rfl (by decide) ?_
  have f20 := (((F8.k0 K3).k0 K6).k0 K9).oth W17 (by omega)
  refine mS 94 1 X17 (rm_au139 G f20) (u23 G) all0 d21_91 rfl rfl rfl lr (by decide) all0 ?_
  rintro _ _ _ _ X21 ⟨xa1_22, xk1_23, rfl, q24, q25, q26, _⟩ K21 _ C21
  have f28 := ((((F2.k0 K3).k0 K6).k0 K9).other W17 (Or.inr (sn1 G))).k0 K21
  have f29 := (f16.wr W17).keep K21
  have f31 := C21.safe (own_lt (by omega)) (C17.safe (own_lt (by omega)) f18)
  refine oP 97 (v' := (.ref xa1_22)) X21 (w21 G) Via.refl f28 f29 (Or.inr ⟨(w17 G), rfl, rfl⟩) (w2 G) fd_0 rfl rfl d21_94 rfl (by omega) (Or.inl (by simp)) f31 ?_
  intro _ _ X30 W30 C30
  have := W30.size
  have f32 := f28.same W30
  have f33 := f29.wr W30
  have f34 := (f19.k0 K21).other W30 (Or.inr (sn0 G))
  have f35 := q24.oth W30 (by omega)
  have f36 := q25.wr W30
  have f37 := C30.safe (own_lt (by omega)) q26
  exact oz X30 d21_97 rfl (by decide) (by decide) (fun _ CC => ⟨xa1_22, xk1_23, rfl, f33, f34, f32, f35, f36, (CC.safe (own_lt (by omega)) f37), by omega⟩)
theorem rm_au141 (G : GL l Z a0 zc fmt kpp) (F0 : ex1 Z h0 pa1) (F1 : fd1 Z h0 pa1 (.int 0)) (F2 : fd0 Z h0 pa1 .null) (F3 : ex3 Z h0 pa2) (F4 : fd6 Z h0 pa2 (.int 1)) (F5 : fd7 Z h0 pa2 (.int 5)) (F6 : fd8 Z h0 pa2 (.int 0)) (F7 : fd5 Z h0 pa2 (.ref pa3)) (F8 : av0 Z h0 pa3 pk1 32 [.int pi1, .int pi2, .int pi3, .int pi4, .int pi5, .int pi6, .int 47, i0, .int 42, i0, i0, i0, i0, i0, i0, i0, i0, i0, i0, i0, i0, i0, i0, i0, i0, i0, i0, i0, i0, i0, i0, i0]) (ne : NE pa1 pa2 ∧ NE pa1 pa3 ∧ n0 ≤ pa1) : M20 l Z 4 1 10 87 #[.ref pa1, .ref pa2] h0 n0 [pa1] [pa1] (Q73 Z pa1 pi1 pi2 pi3 pi4 pi5 pi6 h0) := by
  refine mi B20 ef3 (hEW G) fun s X0 hsf0 n0le => ?_
  have := F0.l
  have := F3.l
  have := F8.l
  have sf_pa1 := hsf0 pa1 (by simp)
  refine oA 1 X0 d20_0 rfl rfl <| oA 2 X0 d20_1 rfl rfl <| o_aconstNull 3 X0 d20_2 rfl <| mP 6 0 X0 (rm_au140 G F0 F1 F2 F3 F4 F5 F6 F7 F8 (by omega)) (u24 G) (sS (by omega) sf_pa1 all0) d20_3 rfl rfl rfl lr (by decide) (aI (by omega) (by simp) all0) ?_
  rintro _ _ _ _ X1 ⟨xa1_2, xk1_3, rfl, q4, q5, q6, q7, q8, q9, _⟩ _ _ _
  exact oz X1 d20_6 rfl (by decide) (by decide) (fun _ CC => ⟨xa1_2, xk1_3, rfl, q4, q5, q6, q7, q8, (CC.safe (own_lt (by omega)) q9), by omega⟩)
def Q74 (Z : State) (b1 b2 b3 b4 b5 b6 : Int32) (h0 : Heap) (v : Option Value) (h : Heap) (vm : Vm) : Prop := ∃ (xa1 : Addr) (xa2 : Addr) (xk1 : ClassId), v = some (.ref xa1) ∧ ex1 Z h xa1 ∧ fd1 Z h xa1 (.int 1) ∧ fd0 Z h xa1 (.ref xa2) ∧ Safe Z EL0 vm h xa1 ∧ av0 Z h xa2 xk1 10 [.int b1, .int b2, .int b3, .int b4, .int b5, .int b6, .int 47, i0, .int 42, i0] ∧ ex0 Z h xa2 ∧ Safe Z EL0 vm h xa2 ∧ h0.size ≤ xa1 ∧ h.size > xa1 ∧ h0.size ≤ xa2 ∧ h.size > xa2 ∧ NE xa1 xa2
theorem rm_au142 (G : GL l Z a0 zc fmt kpp) (F0 : ex3 Z h0 pa1) (F1 : fd6 Z h0 pa1 (.int 1)) (F2 : fd7 Z h0 pa1 (.int 5)) (F3 : fd8 Z h0 pa1 (.int 0)) (F4 : fd5 Z h0 pa1 (.ref pa2)) (F5 : av0 Z h0 pa2 pk1 32 [.int pi1, .int pi2, .int pi3, .int pi4, .int pi5, .int pi6, .int 47, i0, .int 42, i0, i0, i0, i0, i0, i0, i0, i0, i0, i0, i0, i0, i0, i0, i0, i0, i0, i0, i0, i0, i0, i0, i0]) : M19 l Z 5 2 14 101 #[.ref pa1] h0 n0 [] [] (Q74 Z pi1 pi2 pi3 pi4 pi5 pi6 h0) := by
  refine mi B19 ef7 (hEW G) fun s X0 hsf0 n0le => ?_
  have l1 := F0.l
  have := F5.l
  refine o_new 3 X0 (w111 G) (w2 G) (w3 G) d19_0 rfl (by decide) (by decide) ?_
  intro _ h1 b1 X1 _ l1 E1 A1 D1 _ _ S1
  have f2 : fd0 Z h1 b1 .null := D1 (Or.inr (w17 G)) fd_0
  have f3 : fd1 Z h1 b1 (.int 0) := D1 (Or.inr (w18 G)) fd_1
  refine oD 4 X1 d19_3 rfl rfl <| oA 5 X1 d19_4 rfl rfl ?_
  have f4 := F0.ext E1
  have f5 := F1.ext E1
  have f6 := F2.ext E1
  have f7 := F3.ext E1
  have f8 := F4.ext E1
  have f9 := F5.ext E1
  refine mP 8 1 X1 (rm_au141 G A1 f3 f2 f4 f5 f6 f7 f8 f9 (by omega)) (u25 G) (sS (by omega) S1 all0) d19_5 rfl rfl rfl lr (by decide) (aR (by omega) all0) ?_
  rintro _ _ _ _ X10 ⟨xa1_11, xk1_12, rfl, q13, q14, q15, q16, q17, q18, _⟩ _ _ C10
  have f20 := C10.safe (own_lt (by omega)) S1
  exact oR X10 d19_8 rfl rfl rfl (by decide) (by decide) (fun _ CC => ⟨b1, xa1_11, xk1_12, rfl, q13, q14, q15, (CC.safe (own_lt (by omega)) f20), q16, q17, (CC.safe (own_lt (by omega)) q18), by omega⟩)
def Q75 (Z : State) (b1 b2 : Addr) (b3 b4 b5 b6 b7 b8 : Int32) (h0 : Heap) (v : Option Value) (h : Heap) (vm : Vm) : Prop := ∃ (xa1 : Addr) (xa2 : Addr) (xa3 : Addr) (xk1 : ClassId), v = some (.ref xa1) ∧ ex4 Z h xa1 ∧ fd3 Z h xa1 (.ref b1) ∧ fd2 Z h xa1 (.ref xa2) ∧ fd4 Z h xa1 (.ref b2) ∧ ex1 Z h xa2 ∧ fd1 Z h xa2 (.int 1) ∧ fd0 Z h xa2 (.ref xa3) ∧ Safe Z EL0 vm h xa2 ∧ av0 Z h xa3 xk1 10 [.int b3, .int b4, .int b5, .int b6, .int b7, .int b8, .int 47, i0, .int 42, i0] ∧ ex0 Z h xa3 ∧ Safe Z EL0 vm h xa3 ∧ h0.size ≤ xa1 ∧ h.size > xa1 ∧ h0.size ≤ xa2 ∧ h.size > xa2 ∧ NE xa1 xa2 ∧ h0.size ≤ xa3 ∧ h.size > xa3 ∧ NE xa1 xa3 ∧ NE xa2 xa3
theorem rm_au143 (G : GL l Z a0 zc fmt kpp) (F0 : ex1 Z h0 pa1) (F1 : fd1 Z h0 pa1 (.int 1)) (F2 : fd0 Z h0 pa1 (.ref pa2)) (F3 : av0 Z h0 pa2 pk1 6 [.int pi100, .int pi101, .int pi1, .int pi2, .int pi3, .int pi4]) (F4 : ex0 Z h0 pa2) : M8 l Z 10 8 81 145 #[.ref pa1] h0 n0 [] [] (Q75 Z kpp pa1 pi100 pi101 pi1 pi2 pi3 pi4 h0) := by
  have hw := G.1
  refine mi B8 ef7 (hEW G) fun s X0 hsf0 n0le => ?_
  have l1 := F0.l
  have := F3.l
  refine o_new 3 X0 (w38 G) (w39 G) (w36 G) d8_0 rfl (by decide) (by decide) ?_
  intro _ h1 b1 X1 _ l1 E1 A1 D1 _ _ _
  have f2 : fd2 Z h1 b1 .null := D1 (Or.inr (w159 G)) fd_2
  have f3 : fd3 Z h1 b1 .null := D1 (Or.inr (w161 G)) fd_3
  have f4 : fd4 Z h1 b1 .null := D1 (Or.inr (w163 G)) fd_2
  refine oD 4 X1 d8_3 rfl rfl <| o_new 7 X1 (w40 G) (w41 G) (w42 G) d8_4 rfl (by decide) (by decide) ?_
  intro _ h5 b5 X5 _ _ E5 A5 D5 _ _ _
  have f6 : fd5 Z h5 b5 .null := D5 (Or.inl (w55 G)) fd_0
  have f7 : fd6 Z h5 b5 (.int 0) := D5 (Or.inl (w57 G)) fd_1
  have f8 : fd7 Z h5 b5 (.int 0) := D5 (Or.inl (w79 G)) fd_4
  have f9 : fd8 Z h5 b5 (.int 0) := D5 (Or.inl (w238 G)) fd_5
  refine oD 8 X5 d8_7 rfl rfl <| mP 11 3 X5 (rm_au8 G A5 f7 f8 f9 f6 (by omega)) (u6 G) all0 d8_8 rfl rfl rfl lr (by decide) (aR (by omega) all0) ?_
  rintro _ _ _ _ X10 ⟨xa1_11, _, rfl, q13, q14, q15, q16, q17, q18, _, q20, _⟩ K10 _ _
  refine oA 12 X10 d8_11 rfl rfl ?_
  have f22 := ((F0.ext E1).ext E5).keep K10
  have f23 := ((F1.ext E1).ext E5).k1 K10 (by omega)
  have f24 := ((F2.ext E1).ext E5).k1 K10 (by omega)
  have f25 := ((F3.ext E1).ext E5).k1 K10 (by omega)
  refine mV 15 2 X10 q13 (rm_au131 G q13 q14 q15 q16 q17 f22 f23 f24 q18 f25 (by omega)) (u15 G) all0 d8_12 rfl rfl rfl lr (by decide) (aR (by omega) all0) ?_
  rintro _ _ _ _ X26 ⟨xa1_27, _, rfl, q29, q30, q31, q32, q33, q34, q35, q36, _⟩ K26 _ C26
  refine o_ldcC 17 (n := 8) (vs := own_bs ([47, 42] : List Int32)) (z := (2 : Int32)) X26 (w105 G) (hws_str hw) (by decide) ⟨by decide, rfl⟩ (by decide) (by decide) d8_15 rfl (by decide) (by decide) (by decide) (by decide) ?_
  intro a38 b38 kb38 _ h38 _ X38 E38 C38 Es38 Cs38 Vs38 As38 SF38
  have lta38 : h38.size > a38 := Es38.lt
  have ltb38 : h38.size > b38 := As38.lt
  have := E38.1
  have Bs38 : av0 Z h38 b38 kb38 2 [.int 47, .int 42] := As38
  have f40 := (((A1.ext E5).keep K10).keep K26).ext E38
  have := own_nes (SF38 b1 (sx X38 f40 nc2))
  have f42 := q29.ext E38
  have := own_nes (SF38 b5 (sx X38 f42 nc1))
  have f44 := C38.safe (own_lt (by omega)) (C26.safe (own_lt (by omega)) q20)
  have := own_nes (SF38 xa1_11 f44)
  have f46 := C38.safe (own_lt (by omega)) q36
  have := own_nes (SF38 xa1_27 f46)
  have f47 := q30.ext E38
  have f48 := q31.ext E38
  have f49 := q32.ext E38
  have f50 := q33.ext E38
  have f51 := q34.ext E38
  have f52 := q35.ext E38
  refine mV 20 2 X38 f42 (rm_au137 G f42 f47 f48 f49 f50 Es38 Cs38 Vs38 f51 f52 Bs38 (by omega)) (u15 G) (sS (by omega) f46 all0) d8_17 rfl rfl rfl lr (by decide) (aR (by omega) (aR (by omega) all0)) ?_
  rintro _ _ _ _ X53 ⟨rfl, q54, q55, q56, q57, q58, q59, _⟩ K53 _ _
  refine mV 23 2 X53 q54 (rm_au142 G q54 q55 q56 q57 q58 q59) (u26 G) all0 d8_20 rfl rfl rfl lr (by decide) all0 ?_
  rintro _ _ _ _ X61 ⟨xa1_62, xa2_63, xk1_64, rfl, q65, q66, q67, q68, q69, q70, q71, _⟩ K61 _ _
  refine oG 26 X61 (w151 G) Via.refl ((sg1 G).ext X61.old.2) d8_23 rfl ?_
  intro _ X74
  refine oA 27 X74 d8_26 rfl rfl ?_
  have f75 := (f40.keep K53).keep K61
  have f76 := (((((f3.ext E5).k1 K10 (by omega)).k1 K26 (by omega)).ext E38).k2 K53 (by omega)).k0 K61
  have f77 := (((((f2.ext E5).k1 K10 (by omega)).k1 K26 (by omega)).ext E38).k2 K53 (by omega)).k0 K61
  have f78 := (((((f4.ext E5).k1 K10 (by omega)).k1 K26 (by omega)).ext E38).k2 K53 (by omega)).k0 K61
  refine mP 30 1 X74 (rm_au33 G f75 f76 f77 f78 (by omega)) (u27 G) all0 d8_27 rfl rfl rfl lr (by decide) (aR (by omega) all0) ?_
  rintro _ _ _ _ X79 ⟨rfl, q80, q81, q82, q83⟩ K79 _ C79
  have f84 := q65.keep K79
  have f85 := q66.k1 K79 (by omega)
  have f86 := q67.k1 K79 (by omega)
  have f87 := C79.safe (own_lt (by omega)) q68
  have f88 := q69.k1 K79 (by omega)
  have f89 := q70.keep K79
  have f90 := C79.safe (own_lt (by omega)) q71
  exact oR X79 d8_30 rfl rfl rfl (by decide) (by decide) (fun _ CC => ⟨b1, xa1_62, xa2_63, xk1_64, rfl, q80, q81, q82, q83, f84, f85, f86, (CC.safe (own_lt (by omega)) f87), f88, f89, (CC.safe (own_lt (by omega)) f90), by omega⟩)
theorem rm_au144 (G : GL l Z a0 zc fmt kpp) (F0 : av0 Z h0 pa1 pk1 10 [.int 47, i0, .int pi1, .int pi2, .int pi3, .int pi4, .int 47, i0, .int 42, i0]) (F1 : av0 Z h0 pa2 pk2 10 [.int 47, i0, .int pi1, .int pi2, .int pi3, .int pi4, .int 47, i0, .int 42, i0]) : M33 l Z 0 0 0 0 #[.ref pa1, .ref pa2] h0 n0 [] [] (Q16 Z  h0) := by
  refine mi B33 ef8 (hEW G) fun s X0 hsf0 n0le => ?_
  have := F0.l
  have := F1.l
  refine oA 1 X0 d33_0 rfl rfl <| oL 2 X0 F0 d33_1 rfl <| oA 3 X0 d33_2 rfl rfl <| oL 4 X0 F1 d33_3 rfl <| oN 7 X0 d33_4 rfl (teq (by decide)).2 <| oc 8 (v := 0) X0 d33_7 rfl (by decide) <| oT 9 (l' := #[rr pa1, rr pa2, ii 0]) X0 d33_8 rfl rfl <| oI 10 X0 d33_9 rfl rfl <| oA 11 X0 d33_10 rfl rfl <| oL 12 X0 F0 d33_11 rfl <| oN 15 X0 d33_12 rfl (tlt (by decide)).2.1 <| oA 16 X0 d33_15 rfl rfl ?_
  refine oI 17 X0 d33_16 rfl rfl <| oB 18 (v := (.int 47)) X0 F0 ⟨by decide, by decide⟩ rfl d33_17 rfl <| oA 19 X0 d33_18 rfl rfl <| oI 20 X0 d33_19 rfl rfl <| oB 21 (v := (.int 47)) X0 F1 ⟨by decide, by decide⟩ rfl d33_20 rfl <| oY 26 X0 d33_21 (by decide) (teq (by decide)).1 <| oJ 29 1 #[rr pa1, rr pa2, ii 1] X0 d33_26 rfl rfl (by decide) rfl <| og 9 X0 d33_29 (by decide) <| oI 10 X0 d33_9 rfl rfl <| oA 11 X0 d33_10 rfl rfl <| oL 12 X0 F0 d33_11 rfl <| oN 15 X0 d33_12 rfl (tlt (by decide)).2.1 ?_
  refine oA 16 X0 d33_15 rfl rfl <| oI 17 X0 d33_16 rfl rfl <| oB 18 (v := (.int 0)) X0 F0 ⟨by decide, by decide⟩ rfl d33_17 rfl <| oA 19 X0 d33_18 rfl rfl <| oI 20 X0 d33_19 rfl rfl <| oB 21 (v := (.int 0)) X0 F1 ⟨by decide, by decide⟩ rfl d33_20 rfl <| oY 26 X0 d33_21 (by decide) (teq (by decide)).1 <| oJ 29 2 #[rr pa1, rr pa2, ii 2] X0 d33_26 rfl rfl (by decide) rfl <| og 9 X0 d33_29 (by decide) <| oI 10 X0 d33_9 rfl rfl <| oA 11 X0 d33_10 rfl rfl <| oL 12 X0 F0 d33_11 rfl ?_
  refine oN 15 X0 d33_12 rfl (tlt (by decide)).2.1 <| oA 16 X0 d33_15 rfl rfl <| oI 17 X0 d33_16 rfl rfl <| oB 18 (v := (.int pi1)) X0 F0 ⟨by decide, by decide⟩ rfl d33_17 rfl <| oA 19 X0 d33_18 rfl rfl <| oI 20 X0 d33_19 rfl rfl <| oB 21 (v := (.int pi1)) X0 F1 ⟨by decide, by decide⟩ rfl d33_20 rfl <| oY 26 X0 d33_21 (by decide) (teq rfl).1 <| oJ 29 3 #[rr pa1, rr pa2, ii 3] X0 d33_26 rfl rfl (by decide) rfl <| og 9 X0 d33_29 (by decide) <| oI 10 X0 d33_9 rfl rfl <| oA 11 X0 d33_10 rfl rfl ?_
  refine oL 12 X0 F0 d33_11 rfl <| oN 15 X0 d33_12 rfl (tlt (by decide)).2.1 <| oA 16 X0 d33_15 rfl rfl <| oI 17 X0 d33_16 rfl rfl <| oB 18 (v := (.int pi2)) X0 F0 ⟨by decide, by decide⟩ rfl d33_17 rfl <| oA 19 X0 d33_18 rfl rfl <| oI 20 X0 d33_19 rfl rfl <| oB 21 (v := (.int pi2)) X0 F1 ⟨by decide, by decide⟩ rfl d33_20 rfl <| oY 26 X0 d33_21 (by decide) (teq rfl).1 <| oJ 29 4 #[rr pa1, rr pa2, ii 4] X0 d33_26 rfl rfl (by decide) rfl <| og 9 X0 d33_29 (by decide) <| oI 10 X0 d33_9 rfl rfl ?_
  refine oA 11 X0 d33_10 rfl rfl <| oL 12 X0 F0 d33_11 rfl <| oN 15 X0 d33_12 rfl (tlt (by decide)).2.1 <| oA 16 X0 d33_15 rfl rfl <| oI 17 X0 d33_16 rfl rfl <| oB 18 (v := (.int pi3)) X0 F0 ⟨by decide, by decide⟩ rfl d33_17 rfl <| oA 19 X0 d33_18 rfl rfl <| oI 20 X0 d33_19 rfl rfl <| oB 21 (v := (.int pi3)) X0 F1 ⟨by decide, by decide⟩ rfl d33_20 rfl <| oY 26 X0 d33_21 (by decide) (teq rfl).1 <| oJ 29 5 #[rr pa1, rr pa2, ii 5] X0 d33_26 rfl rfl (by decide) rfl <| og 9 X0 d33_29 (by decide) ?_
  refine oI 10 X0 d33_9 rfl rfl <| oA 11 X0 d33_10 rfl rfl <| oL 12 X0 F0 d33_11 rfl <| oN 15 X0 d33_12 rfl (tlt (by decide)).2.1 <| oA 16 X0 d33_15 rfl rfl <| oI 17 X0 d33_16 rfl rfl <| oB 18 (v := (.int pi4)) X0 F0 ⟨by decide, by decide⟩ rfl d33_17 rfl <| oA 19 X0 d33_18 rfl rfl <| oI 20 X0 d33_19 rfl rfl <| oB 21 (v := (.int pi4)) X0 F1 ⟨by decide, by decide⟩ rfl d33_20 rfl <| oY 26 X0 d33_21 (by decide) (teq rfl).1 <| oJ 29 6 #[rr pa1, rr pa2, ii 6] X0 d33_26 rfl rfl (by decide) rfl ?_
  refine og 9 X0 d33_29 (by decide) <| oI 10 X0 d33_9 rfl rfl <| oA 11 X0 d33_10 rfl rfl <| oL 12 X0 F0 d33_11 rfl <| oN 15 X0 d33_12 rfl (tlt (by decide)).2.1 <| oA 16 X0 d33_15 rfl rfl <| oI 17 X0 d33_16 rfl rfl <| oB 18 (v := (.int 47)) X0 F0 ⟨by decide, by decide⟩ rfl d33_17 rfl <| oA 19 X0 d33_18 rfl rfl <| oI 20 X0 d33_19 rfl rfl <| oB 21 (v := (.int 47)) X0 F1 ⟨by decide, by decide⟩ rfl d33_20 rfl <| oY 26 X0 d33_21 (by decide) (teq (by decide)).1 ?_
  refine oJ 29 7 #[rr pa1, rr pa2, ii 7] X0 d33_26 rfl rfl (by decide) rfl <| og 9 X0 d33_29 (by decide) <| oI 10 X0 d33_9 rfl rfl <| oA 11 X0 d33_10 rfl rfl <| oL 12 X0 F0 d33_11 rfl <| oN 15 X0 d33_12 rfl (tlt (by decide)).2.1 <| oA 16 X0 d33_15 rfl rfl <| oI 17 X0 d33_16 rfl rfl <| oB 18 (v := (.int 0)) X0 F0 ⟨by decide, by decide⟩ rfl d33_17 rfl <| oA 19 X0 d33_18 rfl rfl <| oI 20 X0 d33_19 rfl rfl <| oB 21 (v := (.int 0)) X0 F1 ⟨by decide, by decide⟩ rfl d33_20 rfl ?_
  refine oY 26 X0 d33_21 (by decide) (teq (by decide)).1 <| oJ 29 8 #[rr pa1, rr pa2, ii 8] X0 d33_26 rfl rfl (by decide) rfl <| og 9 X0 d33_29 (by decide) <| oI 10 X0 d33_9 rfl rfl <| oA 11 X0 d33_10 rfl rfl <| oL 12 X0 F0 d33_11 rfl <| oN 15 X0 d33_12 rfl (tlt (by decide)).2.1 <| oA 16 X0 d33_15 rfl rfl <| oI 17 X0 d33_16 rfl rfl <| oB 18 (v := (.int 42)) X0 F0 ⟨by decide, by decide⟩ rfl d33_17 rfl <| oA 19 X0 d33_18 rfl rfl <| oI 20 X0 d33_19 rfl rfl ?_
  refine oB 21 (v := (.int 42)) X0 F1 ⟨by decide, by decide⟩ rfl d33_20 rfl <| oY 26 X0 d33_21 (by decide) (teq (by decide)).1 <| oJ 29 9 #[rr pa1, rr pa2, ii 9] X0 d33_26 rfl rfl (by decide) rfl <| og 9 X0 d33_29 (by decide) <| oI 10 X0 d33_9 rfl rfl <| oA 11 X0 d33_10 rfl rfl <| oL 12 X0 F0 d33_11 rfl <| oN 15 X0 d33_12 rfl (tlt (by decide)).2.1 <| oA 16 X0 d33_15 rfl rfl <| oI 17 X0 d33_16 rfl rfl <| oB 18 (v := (.int 0)) X0 F0 ⟨by decide, by decide⟩ rfl d33_17 rfl <| oA 19 X0 d33_18 rfl rfl ?_
  refine oI 20 X0 d33_19 rfl rfl <| oB 21 (v := (.int 0)) X0 F1 ⟨by decide, by decide⟩ rfl d33_20 rfl <| oY 26 X0 d33_21 (by decide) (teq (by decide)).1 <| oJ 29 10 #[rr pa1, rr pa2, ii 10] X0 d33_26 rfl rfl (by decide) rfl <| og 9 X0 d33_29 (by decide) <| oI 10 X0 d33_9 rfl rfl <| oA 11 X0 d33_10 rfl rfl <| oL 12 X0 F0 d33_11 rfl <| oY 32 X0 d33_12 (by decide) (flt (by decide)).2.1 <| oc 33 (v := 1) X0 d33_32 rfl (by decide) ?_
  exact o_nret (y := (1 : Int32)) (t := .boolean) X0 d33_33 rfl (by decide) (by simp) (by decide) (by decide) (fun _ CC => rfl)
theorem rm_au145 (G : GL l Z a0 zc fmt kpp) (F0 : fd1 Z h0 pa1 (.int pi100)) (F1 : fd0 Z h0 pa1 (.ref pa3)) (F2 : ex1 Z h0 pa2) (F3 : fd1 Z h0 pa2 (.int pi101)) (F4 : fd0 Z h0 pa2 (.ref pa4)) (F5 : av0 Z h0 pa3 pk1 10 [.int 47, i0, .int pi1, .int pi2, .int pi3, .int pi4, .int 47, i0, .int 42, i0]) (F6 : av0 Z h0 pa4 pk2 10 [.int 47, i0, .int pi1, .int pi2, .int pi3, .int pi4, .int 47, i0, .int 42, i0]) (pc_0 : pi100 = pi101) (ne : NE pa1 pa2) : M32 l Z 1 0 0 14 #[.ref pa1, .ref pa2] h0 n0 [] [] (Q16 Z  h0) := by
  refine mi B32 ef8 (hEW G) fun s X0 hsf0 n0le => ?_
  have := F0.l
  have := F2.l
  have := F5.l
  have := F6.l
  refine oA 1 X0 d32_0 rfl rfl <| oA 2 X0 d32_1 rfl rfl <| o_acmp 7 (same := false) X0 d32_2 rfl rfl (decide_eq_false (fun q => absurd (Value.ref.inj q) (own_ne (by omega)))) (by decide) (by decide) <| oA 8 X0 d32_7 rfl rfl <| o_instY 11 X0 (w174 G) (Ins.self F2) d32_8 rfl ?_
  intro _ X2
  refine on 14 X2 d32_11 rfl ((if0 _ _).trans (feq (by decide)).1) <| oA 15 X2 d32_14 rfl rfl <| o_castY 18 X2 (w174 G) (Ins.self F2) d32_15 rfl ?_
  intro _ X4
  refine oV 19 (l' := #[rr pa1, rr pa2, rr pa2]) X4 d32_18 rfl rfl rfl <| oG 22 X4 (w23 G) Via.refl ((sg5 G).ext X4.old.2) d32_19 rfl ?_
  intro _ X6
  refine on 25 X6 d32_22 rfl ((if0 _ _).trans (feq (hzc G)).1) <| oA 26 X6 d32_25 rfl rfl <| oF 29 X6 (w22 G) Via.refl F0 d32_26 rfl ?_
  intro _ X8
  refine oA 30 X8 d32_29 rfl rfl <| oF 33 X8 (w22 G) Via.refl F3 d32_30 rfl ?_
  intro _ X10
  refine oN 36 X10 d32_33 rfl (teq pc_0).2 <| oA 37 X10 d32_36 rfl rfl <| oF 40 X10 (w21 G) Via.refl F1 d32_37 rfl ?_
  intro _ X12
  refine oA 41 X12 d32_40 rfl rfl <| oF 44 X12 (w21 G) Via.refl F4 d32_41 rfl ?_
  intro _ X14
  refine mS 47 0 X14 (rm_au144 G F5 F6) (u30 G) all0 d32_44 rfl rfl rfl lr (by decide) all0 ?_
  rintro _ _ _ _ X15 rfl _ _ _
  refine on 50 X15 d32_47 rfl ((if0 _ _).trans (feq (by decide)).1) <| oc 51 (v := 1) X15 d32_50 rfl (by decide) <| og 55 X15 d32_51 (by decide) ?_
  exact o_nret (y := (1 : Int32)) (t := .boolean) X15 d32_55 rfl (by decide) (by simp) (by decide) (by decide) (fun _ CC => rfl)
def Q76 (Z : State) (b1 : Addr) (b2 : ClassId) (b3 : Int32) (h0 : Heap) (v : Option Value) (h : Heap) (vm : Vm) : Prop := v = some (.int 2) ∧ av0 Z h b1 b2 3 [.int 47, .int (b3.toInt8.toInt32), i0] ∧ ex0 Z h b1
theorem rm_au146 (G : GL l Z a0 zc fmt kpp) (F0 : av1 Z h0 pa1 pk1 3 [.int 47, .int pi1, .int pi2]) (F1 : av0 Z h0 pa2 pk2 3 [i0, i0, i0]) (F2 : ex0 Z h0 pa2) (rg_pi1 : ¬ pi1 < 0 ∧ ¬ (255 : Int32) < pi1) (bg_pi2 : (255 : Int32) < pi2 ∧ ¬ (65535 : Int32) < pi2) (ne : NE pa1 pa2 ∧ n0 ≤ pa2) : M6 l Z 0 0 0 0 #[.ref pa1, i0, .ref pa2, i0, .int 3] h0 n0 [pa2] [pa2] (Q76 Z pa2 pk2 pi1 h0) := by
  refine mi B6 ef6 (hEW G) fun s X0 hsf0 n0le => ?_
  have := F0.l
  have := F1.l
  have sf_pa2 := hsf0 pa2 (by simp)
  refine oc 1 (v := 0) X0 d6_0 rfl (by decide) <| oS 3 (l' := #[rr pa1, ii 0, rr pa2, ii 0, ii 3, ii 0, uu]) X0 d6_1 rfl rfl <| oi 5 X0 d6_3 rfl rfl <| oi 7 X0 d6_5 rfl rfl <| oN 10 X0 d6_7 rfl (tlt (by decide)).2.1 <| oA 11 X0 d6_10 rfl rfl <| oI 12 X0 d6_11 rfl rfl <| oC 13 (v := (.int 47)) X0 F0 ⟨by decide, by decide⟩ rfl d6_12 rfl <| oS 15 (l' := #[rr pa1, ii 0, rr pa2, ii 0, ii 3, ii 0, ii 47]) X0 d6_13 rfl rfl <| oi 17 X0 d6_15 rfl rfl <| o_sipush 20 (v := 255) X0 d6_17 rfl (by decide) <| oY 26 X0 d6_20 (by decide) (flt (by decide)).2.2.2 ?_
  refine oA 27 X0 d6_26 rfl rfl <| oI 28 X0 d6_27 rfl rfl <| oi 30 X0 d6_28 rfl rfl <| o_i2b 31 (v := 47) X0 d6_30 rfl (by decide) <| sB 32 0 47 X0 F1 (by decide) (lb rfl) (by decide) d6_31 rfl (by omega) (Or.inl (by simp)) sf_pa2 ?_
  rintro _ _ X1 ⟨_, _, W1⟩ C1 V1
  have := W1.size
  have V2 := V1.as [.int 47, i0, i0] rfl
  refine oJ 35 1 #[rr pa1, ii 1, rr pa2, ii 0, ii 3, ii 0, ii 47] X1 d6_32 rfl rfl (by decide) rfl <| oJ 38 1 #[rr pa1, ii 1, rr pa2, ii 1, ii 3, ii 0, ii 47] X1 d6_35 rfl rfl (by decide) rfl <| oJ 41 1 #[rr pa1, ii 1, rr pa2, ii 1, ii 3, ii 1, ii 47] X1 d6_38 rfl rfl (by decide) rfl <| og 3 X1 d6_41 (by decide) <| oi 5 X1 d6_3 rfl rfl <| oi 7 X1 d6_5 rfl rfl <| oN 10 X1 d6_7 rfl (tlt (by decide)).2.1 <| oA 11 X1 d6_10 rfl rfl <| oI 12 X1 d6_11 rfl rfl ?_
  have f3 := F0.oth W1 (by omega)
  refine oC 13 (v := (.int pi1)) X1 f3 ⟨by decide, by decide⟩ rfl d6_12 rfl <| oS 15 (l' := #[rr pa1, ii 1, rr pa2, ii 1, ii 3, ii 1, ii pi1]) X1 d6_13 rfl rfl <| oi 17 X1 d6_15 rfl rfl <| o_sipush 20 (v := 255) X1 d6_17 rfl (by decide) <| oY 26 X1 d6_20 (by decide) (flt rg_pi1.2).2.2.2 <| oA 27 X1 d6_26 rfl rfl <| oI 28 X1 d6_27 rfl rfl <| oi 30 X1 d6_28 rfl rfl <| o_i2b 31 (v := (pi1.toInt8.toInt32)) X1 d6_30 rfl rfl ?_
  have f5 := C1.safe (own_lt (by omega)) sf_pa2
  refine sB 32 1 (pi1.toInt8.toInt32) X1 V2 (by decide) (lb rfl) (own_narB _) d6_31 rfl (by omega) (Or.inl (by simp)) f5 ?_
  rintro _ _ X4 ⟨_, _, W4⟩ _ V4
  have := W4.size
  have V6 := V4.as [.int 47, .int (pi1.toInt8.toInt32), i0] rfl
  refine oJ 35 2 #[rr pa1, ii 2, rr pa2, ii 1, ii 3, ii 1, ii pi1] X4 d6_32 rfl rfl (by decide) rfl <| oJ 38 2 #[rr pa1, ii 2, rr pa2, ii 2, ii 3, ii 1, ii pi1] X4 d6_35 rfl rfl (by decide) rfl <| oJ 41 2 #[rr pa1, ii 2, rr pa2, ii 2, ii 3, ii 2, ii pi1] X4 d6_38 rfl rfl (by decide) rfl <| og 3 X4 d6_41 (by decide) <| oi 5 X4 d6_3 rfl rfl <| oi 7 X4 d6_5 rfl rfl <| oN 10 X4 d6_7 rfl (tlt (by decide)).2.1 <| oA 11 X4 d6_10 rfl rfl <| oI 12 X4 d6_11 rfl rfl ?_
  have f7 := f3.oth W4 (by omega)
  refine oC 13 (v := (.int pi2)) X4 f7 ⟨by decide, by decide⟩ rfl d6_12 rfl <| oS 15 (l' := #[rr pa1, ii 2, rr pa2, ii 2, ii 3, ii 2, ii pi2]) X4 d6_13 rfl rfl <| oi 17 X4 d6_15 rfl rfl <| o_sipush 20 (v := 255) X4 d6_17 rfl (by decide) <| oN 23 X4 d6_20 rfl (tlt bg_pi2.1).2.2.2 <| oi 25 X4 d6_23 rfl rfl ?_
  have f8 := (F2.wr W1).wr W4
  exact o_iret X4 d6_25 rfl (by decide) (by decide) (fun _ CC => ⟨rfl, V6, f8⟩)
theorem rm_au147 (G : GL l Z a0 zc fmt kpp) (F0 : av1 Z h0 pa1 pk1 3 [.int 47, .int pi1, .int pi2]) (rg_pi1 : ¬ pi1 < 0 ∧ ¬ (255 : Int32) < pi1) (bg_pi2 : (255 : Int32) < pi2 ∧ ¬ (65535 : Int32) < pi2) : M36 l Z 2 1 6 24 #[.ref pa1, i0, .int 3] h0 n0 [] [] (Q59 Z pi1 pi2 h0) := by
  refine mi B36 ef13 (hEW G) fun s X0 hsf0 n0le => ?_
  have := F0.l
  refine oI 1 X0 d36_0 rfl rfl <| mS 4 0 X0 (rm_au113 G ) (u35 G) all0 d36_1 rfl rfl rfl lr (by decide) all0 ?_
  rintro _ _ _ _ X1 ⟨xa1_2, xk1_3, rfl, q4, q5, q6, _⟩ K1 _ _
  refine oV 5 (l' := #[rr pa1, ii 0, ii 3, rr xa1_2, uu]) X1 d36_4 rfl rfl rfl <| oc 6 (v := 0) X1 d36_5 rfl (by decide) <| oS 8 (l' := #[rr pa1, ii 0, ii 3, rr xa1_2, ii 0]) X1 d36_6 rfl rfl <| oi 10 X1 d36_8 rfl rfl <| oI 11 X1 d36_10 rfl rfl <| oN 14 X1 d36_11 rfl (tlt (by decide)).2.1 <| oA 15 X1 d36_14 rfl rfl <| oi 17 X1 d36_15 rfl rfl <| oA 18 X1 d36_17 rfl rfl <| oI 19 X1 d36_18 rfl rfl ?_
  have f8 := F0.k0 K1
  refine oC 20 (v := (.int 47)) X1 f8 ⟨by decide, by decide⟩ rfl d36_19 rfl <| mS 23 0 X1 (rm_putChar G q5 q4 ⟨by decide, by decide⟩ ⟨by decide, by decide⟩ (Nat.le_of_ble_eq_true rfl) (Nat.le_of_ble_eq_true rfl) (by omega)) (u36 G) (sS (by omega) q6 all0) d36_20 rfl rfl rfl lr (by decide) (aR (by omega) all0) ?_
  rintro _ _ _ _ X9 ⟨rfl, q10, q11⟩ K9 _ C9
  have V12 := q11.as [.int 47, i0, i0, i0, i0, i0] rfl
  refine oJ 26 1 #[rr pa1, ii 1, ii 3, rr xa1_2, ii 0] X9 d36_23 rfl rfl (by decide) rfl <| oJ 29 1 #[rr pa1, ii 1, ii 3, rr xa1_2, ii 1] X9 d36_26 rfl rfl (by decide) rfl <| og 8 X9 d36_29 (by decide) <| oi 10 X9 d36_8 rfl rfl <| oI 11 X9 d36_10 rfl rfl <| oN 14 X9 d36_11 rfl (tlt (by decide)).2.1 <| oA 15 X9 d36_14 rfl rfl <| oi 17 X9 d36_15 rfl rfl <| oA 18 X9 d36_17 rfl rfl <| oI 19 X9 d36_18 rfl rfl ?_
  have f13 := f8.k1 K9 (by omega)
  refine oC 20 (v := (.int pi1)) X9 f13 ⟨by decide, by decide⟩ rfl d36_19 rfl ?_
  have f14 := C9.safe (own_lt (by omega)) q6
  refine mS 23 0 X9 (rm_putChar G q10 V12 ⟨by decide, by decide⟩ ⟨by decide, by decide⟩ (Nat.le_of_ble_eq_true rfl) (Nat.le_of_ble_eq_true rfl) (by omega)) (u36 G) (sS (by omega) f14 all0) d36_20 rfl rfl rfl lr (by decide) (aR (by omega) all0) ?_
  rintro _ _ _ _ X15 ⟨rfl, q16, q17⟩ K15 _ C15
  have V18 := q17.as [.int 47, i0, .int ((pi1 >>> ((0 : Int32) &&& 31)).toInt8.toInt32), .int ((pi1 >>> ((8 : Int32) &&& 31)).toInt8.toInt32), i0, i0] rfl
  refine oJ 26 2 #[rr pa1, ii 2, ii 3, rr xa1_2, ii 1] X15 d36_23 rfl rfl (by decide) rfl <| oJ 29 2 #[rr pa1, ii 2, ii 3, rr xa1_2, ii 2] X15 d36_26 rfl rfl (by decide) rfl <| og 8 X15 d36_29 (by decide) <| oi 10 X15 d36_8 rfl rfl <| oI 11 X15 d36_10 rfl rfl <| oN 14 X15 d36_11 rfl (tlt (by decide)).2.1 <| oA 15 X15 d36_14 rfl rfl <| oi 17 X15 d36_15 rfl rfl <| oA 18 X15 d36_17 rfl rfl <| oI 19 X15 d36_18 rfl rfl ?_
  have f19 := f13.k1 K15 (by omega)
  refine oC 20 (v := (.int pi2)) X15 f19 ⟨by decide, by decide⟩ rfl d36_19 rfl ?_
  have f20 := C15.safe (own_lt (by omega)) f14
  refine mS 23 0 X15 (rm_putChar G q16 V18 ⟨by decide, by decide⟩ ⟨by decide, by decide⟩ (Nat.le_of_ble_eq_true rfl) (Nat.le_of_ble_eq_true rfl) (by omega)) (u36 G) (sS (by omega) f20 all0) d36_20 rfl rfl rfl lr (by decide) (aR (by omega) all0) ?_
  rintro _ _ _ _ X21 ⟨rfl, q22, q23⟩ _ _ C21
  have V24 := q23.as [.int 47, i0, .int ((pi1 >>> ((0 : Int32) &&& 31)).toInt8.toInt32), .int ((pi1 >>> ((8 : Int32) &&& 31)).toInt8.toInt32), .int ((pi2 >>> ((0 : Int32) &&& 31)).toInt8.toInt32), .int ((pi2 >>> ((8 : Int32) &&& 31)).toInt8.toInt32)] rfl
  refine oJ 26 3 #[rr pa1, ii 3, ii 3, rr xa1_2, ii 2] X21 d36_23 rfl rfl (by decide) rfl <| oJ 29 3 #[rr pa1, ii 3, ii 3, rr xa1_2, ii 3] X21 d36_26 rfl rfl (by decide) rfl <| og 8 X21 d36_29 (by decide) <| oi 10 X21 d36_8 rfl rfl <| oI 11 X21 d36_10 rfl rfl <| oY 32 X21 d36_11 (by decide) (flt (by decide)).2.1 <| oA 33 X21 d36_32 rfl rfl ?_
  have f25 := C21.safe (own_lt (by omega)) f20
  exact oR X21 d36_33 rfl rfl rfl (by decide) (by decide) (fun _ CC => ⟨xa1_2, xk1_3, rfl, V24, q22, (CC.safe (own_lt (by omega)) f25), by omega⟩)
theorem rm_au148 (G : GL l Z a0 zc fmt kpp) (F0 : av1 Z h0 pa1 pk1 3 [.int 47, .int pi1, .int pi2]) (rg_pi1 : ¬ pi1 < 0 ∧ ¬ (255 : Int32) < pi1) (bg_pi2 : (255 : Int32) < pi2 ∧ ¬ (65535 : Int32) < pi2) : M5 l Z 3 2 9 40 #[.ref pa1, i0, .int 3] h0 n0 [] [] (Q59 Z pi1 pi2 h0) := by
  refine mi B5 ef5 (hEW G) fun s X0 hsf0 n0le => ?_
  have l1 := F0.l
  refine oI 1 X0 d5_0 rfl rfl <| nP (aty := .byte) 3 3 X0 (w16 G) d5_1 rfl (by decide) had_byte ?_
  intro _ h1 b1 k1 X1 _ l1 E1 V1 A1 _ S1
  have V2 : av0 Z h1 b1 k1 3 [i0, i0, i0] := V1.pad (pad_rep [] (.int (0 : Int32)) 3)
  refine oV 4 (l' := #[rr pa1, ii 0, ii 3, rr b1, uu, uu]) X1 d5_3 rfl rfl rfl <| oA 5 X1 d5_4 rfl rfl <| oI 6 X1 d5_5 rfl rfl <| oA 7 X1 d5_6 rfl rfl <| oc 8 (v := 0) X1 d5_7 rfl (by decide) <| oI 9 X1 d5_8 rfl rfl ?_
  have f3 := F0.ext E1
  refine mS 12 0 X1 (rm_au146 G f3 V2 A1 rg_pi1 bg_pi2 (by omega)) (u2 G) (sS (by omega) S1 all0) d5_9 rfl rfl rfl lr (by decide) (aR (by omega) all0) ?_
  rintro _ _ _ _ X4 ⟨rfl, _, _⟩ K4 _ _
  refine oS 14 (l' := #[rr pa1, ii 0, ii 3, rr b1, ii 2, uu]) X4 d5_12 rfl rfl <| oi 16 X4 d5_14 rfl rfl <| oI 17 X4 d5_16 rfl rfl <| oN 20 X4 d5_17 rfl (feq (by decide)).1 <| oA 21 X4 d5_20 rfl rfl <| oI 22 X4 d5_21 rfl rfl <| oI 23 X4 d5_22 rfl rfl ?_
  have f7 := f3.k1 K4 (by omega)
  refine mS 26 0 X4 (rm_au147 G f7 rg_pi1 bg_pi2) (u37 G) all0 d5_23 rfl rfl rfl lr (by decide) all0 ?_
  rintro _ _ _ _ X8 ⟨xa1_9, xk1_10, rfl, q11, q12, q13, _⟩ _ _ _
  refine oU 28 (l' := #[rr pa1, ii 0, ii 3, rr b1, ii 2, rr xa1_9]) X8 d5_26 rfl rfl rfl <| oa 30 X8 d5_28 rfl rfl <| oi 32 X8 d5_30 rfl rfl <| mS 35 0 X8 (rm_getChar G q11 ⟨by decide, by decide⟩ ⟨by decide, by decide⟩ rfl rfl) (u38 G) all0 d5_32 rfl rfl rfl lr (by decide) all0 ?_
  rintro _ _ _ _ X15 rfl K15 _ C15
  refine o_sipush 38 (v := 255) X15 d5_35 rfl (by decide) <| oY 54 X15 d5_38 (by decide) (tlt (by rw [own_gcE bg_pi2]; exact bg_pi2.1)).2.2.1 <| oa 56 X15 d5_54 rfl rfl ?_
  have f16 := q11.k0 K15
  have f17 := q12.keep K15
  have f18 := C15.safe (own_lt (by omega)) q13
  exact oR X15 d5_56 rfl rfl rfl (by decide) (by decide) (fun _ CC => ⟨xa1_9, xk1_10, rfl, f16, f17, (CC.safe (own_lt (by omega)) f18), by omega⟩)
theorem rm_au149 (G : GL l Z a0 zc fmt kpp) (F0 : ex1 Z h0 pa1) (F1 : fd1 Z h0 pa1 (.int 0)) (F2 : fd0 Z h0 pa1 .null) (F3 : av1 Z h0 pa2 pk1 3 [.int 47, .int pi1, .int pi2]) (rg_pi1 : ¬ pi1 < 0 ∧ ¬ (255 : Int32) < pi1) (bg_pi2 : (255 : Int32) < pi2 ∧ ¬ (65535 : Int32) < pi2) (ne : NE pa1 pa2 ∧ n0 ≤ pa1) : M4 l Z 4 2 9 57 #[.ref pa1, .ref pa2, i0, .int 3, .null] h0 n0 [pa1] [pa1] (Q60 Z pa1 pi1 pi2 h0) := by
  refine mi B4 ef4 (hEW G) fun s X0 hsf0 n0le => ?_
  have := F0.l
  have := F3.l
  have sf_pa1 := hsf0 pa1 (by simp)
  refine oA 1 X0 d4_0 rfl rfl <| o_initO 4 (W := 0) X0 (w12 G) (w13 G) (w14 G) rfl (by decide) (Nat.le_of_eq rfl) (by decide) d4_1 rfl ?_
  intro _ X2
  refine oI 5 X2 d4_4 rfl rfl <| oy 27 X2 d4_5 (by decide) ((if0 _ _).trans (feq (by decide)).2) <| oG 30 X2 (w23 G) Via.refl ((sg5 G).ext X2.old.2) d4_27 rfl ?_
  intro _ X4
  refine on 33 X4 d4_30 rfl ((if0 _ _).trans (feq (hzc G)).1) <| oA 34 X4 d4_33 rfl rfl <| oI 35 X4 d4_34 rfl rfl <| oI 36 X4 d4_35 rfl rfl <| mS 39 0 X4 (rm_au148 G F3 rg_pi1 bg_pi2) (u3 G) all0 d4_36 rfl rfl rfl lr (by decide) all0 ?_
  rintro _ _ _ _ X5 ⟨xa1_6, xk1_7, rfl, q8, q9, q10, _⟩ K5 _ C5
  refine oU 41 (l' := #[rr pa1, rr pa2, ii 0, ii 3, .val .null, rr xa1_6]) X5 d4_39 rfl rfl rfl <| oA 42 X5 d4_41 rfl rfl <| oa 44 X5 d4_42 rfl rfl <| oI 45 X5 d4_44 rfl rfl <| mS 48 1 X5 (rm_au116 G q8) (u4 G) all0 d4_45 rfl rfl rfl lr (by decide) all0 ?_
  rintro _ _ _ _ X12 rfl K12 _ C12
  have f13 := (F1.k0 K5).k0 K12
  have f14 := (F0.keep K5).keep K12
  have f16 := C12.safe (own_lt (by omega)) (C5.safe (own_lt (by omega)) sf_pa1)
  refine oP 51 (v' := (.int 1)) X12 (w22 G) Via.refl f13 f14 (Or.inr ⟨(w18 G), rfl, rfl⟩) (w2 G) fd_1 rfl rfl d4_48 rfl (by omega) (Or.inl (by simp)) f16 ?_
  intro _ _ X15 W15 C15
  have := W15.size
  have f17 := f13.same W15
  refine oA 52 X15 d4_51 rfl rfl <| oa 54 X15 d4_52 rfl rfl ?_
  have f18 := ((F2.k0 K5).k0 K12).other W15 (Or.inr (sn1 G))
  have f19 := f14.wr W15
  have f21 := C15.safe (own_lt (by omega)) f16
  refine oP 57 (v' := (.ref xa1_6)) X15 (w21 G) Via.refl f18 f19 (Or.inr ⟨(w17 G), rfl, rfl⟩) (w2 G) fd_0 rfl rfl d4_54 rfl (by omega) (Or.inl (by simp)) f21 ?_
  intro _ _ X20 W20 C20
  have := W20.size
  have f22 := f18.same W20
  have f23 := f19.wr W20
  have f24 := f17.other W20 (Or.inr (sn0 G))
  have f25 := ((q8.k0 K12).oth W15 (by omega)).oth W20 (by omega)
  have f26 := ((q9.keep K12).wr W15).wr W20
  have f27 := C20.safe (own_lt (by omega)) (C15.safe (own_lt (by omega)) (C12.safe (own_lt (by omega)) q10))
  exact oz X20 d4_57 rfl (by decide) (by decide) (fun _ CC => ⟨xa1_6, xk1_7, rfl, f23, f24, f22, f25, f26, (CC.safe (own_lt (by omega)) f27), by omega⟩)
theorem rm_au150 (G : GL l Z a0 zc fmt kpp) (F0 : ex1 Z h0 pa1) (F1 : fd1 Z h0 pa1 (.int 0)) (F2 : fd0 Z h0 pa1 .null) (F3 : av1 Z h0 pa2 pk1 3 [.int 47, .int pi1, .int pi2]) (rg_pi1 : ¬ pi1 < 0 ∧ ¬ (255 : Int32) < pi1) (bg_pi2 : (255 : Int32) < pi2 ∧ ¬ (65535 : Int32) < pi2) (ne : NE pa1 pa2 ∧ n0 ≤ pa1) : M3 l Z 5 2 9 74 #[.ref pa1, .ref pa2] h0 n0 [pa1] [pa1] (Q60 Z pa1 pi1 pi2 h0) := by
  refine mi B3 ef3 (hEW G) fun s X0 hsf0 n0le => ?_
  have := F0.l
  have := F3.l
  have sf_pa1 := hsf0 pa1 (by simp)
  refine oA 1 X0 d3_0 rfl rfl <| oA 2 X0 d3_1 rfl rfl <| oc 3 (v := 0) X0 d3_2 rfl (by decide) <| oA 4 X0 d3_3 rfl rfl <| oL 5 X0 F3 d3_4 rfl <| o_aconstNull 6 X0 d3_5 rfl <| mP 9 0 X0 (rm_au149 G F0 F1 F2 F3 rg_pi1 bg_pi2 (by omega)) (u0 G) (sS (by omega) sf_pa1 all0) d3_6 rfl rfl rfl lr (by decide) (aI (by omega) (by simp) all0) ?_
  rintro _ _ _ _ X1 ⟨xa1_2, xk1_3, rfl, q4, q5, q6, q7, q8, q9, _⟩ _ _ _
  exact oz X1 d3_9 rfl (by decide) (by decide) (fun _ CC => ⟨xa1_2, xk1_3, rfl, q4, q5, q6, q7, q8, (CC.safe (own_lt (by omega)) q9), by omega⟩)
def Q77 (Z : State) (b1 : Addr) (b2 : ClassId) (b3 : Int32) (h0 : Heap) (v : Option Value) (h : Heap) (vm : Vm) : Prop := v = some (.int 2) ∧ av0 Z h b1 b2 5 [.int 47, .int (b3.toInt8.toInt32), i0, i0, i0] ∧ ex0 Z h b1
theorem rm_au151 (G : GL l Z a0 zc fmt kpp) (F0 : av1 Z h0 pa1 pk1 5 [.int 47, .int pi1, .int pi2, .int 47, .int 42]) (F1 : av0 Z h0 pa2 pk2 5 [i0, i0, i0, i0, i0]) (F2 : ex0 Z h0 pa2) (rg_pi1 : ¬ pi1 < 0 ∧ ¬ (255 : Int32) < pi1) (bg_pi2 : (255 : Int32) < pi2 ∧ ¬ (65535 : Int32) < pi2) (ne : NE pa1 pa2 ∧ n0 ≤ pa2) : M6 l Z 0 0 0 0 #[.ref pa1, i0, .ref pa2, i0, .int 5] h0 n0 [pa2] [pa2] (Q77 Z pa2 pk2 pi1 h0) := by
  refine mi B6 ef6 (hEW G) fun s X0 hsf0 n0le => ?_
  have := F0.l
  have := F1.l
  have sf_pa2 := hsf0 pa2 (by simp)
  refine oc 1 (v := 0) X0 d6_0 rfl (by decide) <| oS 3 (l' := #[rr pa1, ii 0, rr pa2, ii 0, ii 5, ii 0, uu]) X0 d6_1 rfl rfl <| oi 5 X0 d6_3 rfl rfl <| oi 7 X0 d6_5 rfl rfl <| oN 10 X0 d6_7 rfl (tlt (by decide)).2.1 <| oA 11 X0 d6_10 rfl rfl <| oI 12 X0 d6_11 rfl rfl <| oC 13 (v := (.int 47)) X0 F0 ⟨by decide, by decide⟩ rfl d6_12 rfl <| oS 15 (l' := #[rr pa1, ii 0, rr pa2, ii 0, ii 5, ii 0, ii 47]) X0 d6_13 rfl rfl <| oi 17 X0 d6_15 rfl rfl <| o_sipush 20 (v := 255) X0 d6_17 rfl (by decide) <| oY 26 X0 d6_20 (by decide) (flt (by decide)).2.2.2 ?_
  refine oA 27 X0 d6_26 rfl rfl <| oI 28 X0 d6_27 rfl rfl <| oi 30 X0 d6_28 rfl rfl <| o_i2b 31 (v := 47) X0 d6_30 rfl (by decide) <| sB 32 0 47 X0 F1 (by decide) (lb rfl) (by decide) d6_31 rfl (by omega) (Or.inl (by simp)) sf_pa2 ?_
  rintro _ _ X1 ⟨_, _, W1⟩ C1 V1
  have := W1.size
  have V2 := V1.as [.int 47, i0, i0, i0, i0] rfl
  refine oJ 35 1 #[rr pa1, ii 1, rr pa2, ii 0, ii 5, ii 0, ii 47] X1 d6_32 rfl rfl (by decide) rfl <| oJ 38 1 #[rr pa1, ii 1, rr pa2, ii 1, ii 5, ii 0, ii 47] X1 d6_35 rfl rfl (by decide) rfl <| oJ 41 1 #[rr pa1, ii 1, rr pa2, ii 1, ii 5, ii 1, ii 47] X1 d6_38 rfl rfl (by decide) rfl <| og 3 X1 d6_41 (by decide) <| oi 5 X1 d6_3 rfl rfl <| oi 7 X1 d6_5 rfl rfl <| oN 10 X1 d6_7 rfl (tlt (by decide)).2.1 <| oA 11 X1 d6_10 rfl rfl <| oI 12 X1 d6_11 rfl rfl ?_
  have f3 := F0.oth W1 (by omega)
  refine oC 13 (v := (.int pi1)) X1 f3 ⟨by decide, by decide⟩ rfl d6_12 rfl <| oS 15 (l' := #[rr pa1, ii 1, rr pa2, ii 1, ii 5, ii 1, ii pi1]) X1 d6_13 rfl rfl <| oi 17 X1 d6_15 rfl rfl <| o_sipush 20 (v := 255) X1 d6_17 rfl (by decide) <| oY 26 X1 d6_20 (by decide) (flt rg_pi1.2).2.2.2 <| oA 27 X1 d6_26 rfl rfl <| oI 28 X1 d6_27 rfl rfl <| oi 30 X1 d6_28 rfl rfl <| o_i2b 31 (v := (pi1.toInt8.toInt32)) X1 d6_30 rfl rfl ?_
  have f5 := C1.safe (own_lt (by omega)) sf_pa2
  refine sB 32 1 (pi1.toInt8.toInt32) X1 V2 (by decide) (lb rfl) (own_narB _) d6_31 rfl (by omega) (Or.inl (by simp)) f5 ?_
  rintro _ _ X4 ⟨_, _, W4⟩ _ V4
  have := W4.size
  have V6 := V4.as [.int 47, .int (pi1.toInt8.toInt32), i0, i0, i0] rfl
  refine oJ 35 2 #[rr pa1, ii 2, rr pa2, ii 1, ii 5, ii 1, ii pi1] X4 d6_32 rfl rfl (by decide) rfl <| oJ 38 2 #[rr pa1, ii 2, rr pa2, ii 2, ii 5, ii 1, ii pi1] X4 d6_35 rfl rfl (by decide) rfl <| oJ 41 2 #[rr pa1, ii 2, rr pa2, ii 2, ii 5, ii 2, ii pi1] X4 d6_38 rfl rfl (by decide) rfl <| og 3 X4 d6_41 (by decide) <| oi 5 X4 d6_3 rfl rfl <| oi 7 X4 d6_5 rfl rfl <| oN 10 X4 d6_7 rfl (tlt (by decide)).2.1 <| oA 11 X4 d6_10 rfl rfl <| oI 12 X4 d6_11 rfl rfl ?_
  have f7 := f3.oth W4 (by omega)
  refine oC 13 (v := (.int pi2)) X4 f7 ⟨by decide, by decide⟩ rfl d6_12 rfl <| oS 15 (l' := #[rr pa1, ii 2, rr pa2, ii 2, ii 5, ii 2, ii pi2]) X4 d6_13 rfl rfl <| oi 17 X4 d6_15 rfl rfl <| o_sipush 20 (v := 255) X4 d6_17 rfl (by decide) <| oN 23 X4 d6_20 rfl (tlt bg_pi2.1).2.2.2 <| oi 25 X4 d6_23 rfl rfl ?_
  have f8 := (F2.wr W1).wr W4
  exact o_iret X4 d6_25 rfl (by decide) (by decide) (fun _ CC => ⟨rfl, V6, f8⟩)
theorem rm_au152 (G : GL l Z a0 zc fmt kpp) (F0 : av1 Z h0 pa1 pk1 5 [.int 47, .int pi1, .int pi2, .int 47, .int 42]) (rg_pi1 : ¬ pi1 < 0 ∧ ¬ (255 : Int32) < pi1) (bg_pi2 : (255 : Int32) < pi2 ∧ ¬ (65535 : Int32) < pi2) : M36 l Z 2 1 10 24 #[.ref pa1, i0, .int 5] h0 n0 [] [] (Q64 Z pi1 pi2 h0) := by
  refine mi B36 ef13 (hEW G) fun s X0 hsf0 n0le => ?_
  have := F0.l
  refine oI 1 X0 d36_0 rfl rfl <| mS 4 0 X0 (rm_au121 G ) (u35 G) all0 d36_1 rfl rfl rfl lr (by decide) all0 ?_
  rintro _ _ _ _ X1 ⟨xa1_2, xk1_3, rfl, q4, q5, q6, _⟩ K1 _ _
  refine oV 5 (l' := #[rr pa1, ii 0, ii 5, rr xa1_2, uu]) X1 d36_4 rfl rfl rfl <| oc 6 (v := 0) X1 d36_5 rfl (by decide) <| oS 8 (l' := #[rr pa1, ii 0, ii 5, rr xa1_2, ii 0]) X1 d36_6 rfl rfl <| oi 10 X1 d36_8 rfl rfl <| oI 11 X1 d36_10 rfl rfl <| oN 14 X1 d36_11 rfl (tlt (by decide)).2.1 <| oA 15 X1 d36_14 rfl rfl <| oi 17 X1 d36_15 rfl rfl <| oA 18 X1 d36_17 rfl rfl <| oI 19 X1 d36_18 rfl rfl ?_
  have f8 := F0.k0 K1
  refine oC 20 (v := (.int 47)) X1 f8 ⟨by decide, by decide⟩ rfl d36_19 rfl <| mS 23 0 X1 (rm_putChar G q5 q4 ⟨by decide, by decide⟩ ⟨by decide, by decide⟩ (Nat.le_of_ble_eq_true rfl) (Nat.le_of_ble_eq_true rfl) (by omega)) (u36 G) (sS (by omega) q6 all0) d36_20 rfl rfl rfl lr (by decide) (aR (by omega) all0) ?_
  rintro _ _ _ _ X9 ⟨rfl, q10, q11⟩ K9 _ C9
  have V12 := q11.as [.int 47, i0, i0, i0, i0, i0, i0, i0, i0, i0] rfl
  refine oJ 26 1 #[rr pa1, ii 1, ii 5, rr xa1_2, ii 0] X9 d36_23 rfl rfl (by decide) rfl <| oJ 29 1 #[rr pa1, ii 1, ii 5, rr xa1_2, ii 1] X9 d36_26 rfl rfl (by decide) rfl <| og 8 X9 d36_29 (by decide) <| oi 10 X9 d36_8 rfl rfl <| oI 11 X9 d36_10 rfl rfl <| oN 14 X9 d36_11 rfl (tlt (by decide)).2.1 <| oA 15 X9 d36_14 rfl rfl <| oi 17 X9 d36_15 rfl rfl <| oA 18 X9 d36_17 rfl rfl <| oI 19 X9 d36_18 rfl rfl ?_
  have f13 := f8.k1 K9 (by omega)
  refine oC 20 (v := (.int pi1)) X9 f13 ⟨by decide, by decide⟩ rfl d36_19 rfl ?_
  have f14 := C9.safe (own_lt (by omega)) q6
  refine mS 23 0 X9 (rm_putChar G q10 V12 ⟨by decide, by decide⟩ ⟨by decide, by decide⟩ (Nat.le_of_ble_eq_true rfl) (Nat.le_of_ble_eq_true rfl) (by omega)) (u36 G) (sS (by omega) f14 all0) d36_20 rfl rfl rfl lr (by decide) (aR (by omega) all0) ?_
  rintro _ _ _ _ X15 ⟨rfl, q16, q17⟩ K15 _ C15
  have V18 := q17.as [.int 47, i0, .int ((pi1 >>> ((0 : Int32) &&& 31)).toInt8.toInt32), .int ((pi1 >>> ((8 : Int32) &&& 31)).toInt8.toInt32), i0, i0, i0, i0, i0, i0] rfl
  refine oJ 26 2 #[rr pa1, ii 2, ii 5, rr xa1_2, ii 1] X15 d36_23 rfl rfl (by decide) rfl <| oJ 29 2 #[rr pa1, ii 2, ii 5, rr xa1_2, ii 2] X15 d36_26 rfl rfl (by decide) rfl <| og 8 X15 d36_29 (by decide) <| oi 10 X15 d36_8 rfl rfl <| oI 11 X15 d36_10 rfl rfl <| oN 14 X15 d36_11 rfl (tlt (by decide)).2.1 <| oA 15 X15 d36_14 rfl rfl <| oi 17 X15 d36_15 rfl rfl <| oA 18 X15 d36_17 rfl rfl <| oI 19 X15 d36_18 rfl rfl ?_
  have f19 := f13.k1 K15 (by omega)
  refine oC 20 (v := (.int pi2)) X15 f19 ⟨by decide, by decide⟩ rfl d36_19 rfl ?_
  have f20 := C15.safe (own_lt (by omega)) f14
  refine mS 23 0 X15 (rm_putChar G q16 V18 ⟨by decide, by decide⟩ ⟨by decide, by decide⟩ (Nat.le_of_ble_eq_true rfl) (Nat.le_of_ble_eq_true rfl) (by omega)) (u36 G) (sS (by omega) f20 all0) d36_20 rfl rfl rfl lr (by decide) (aR (by omega) all0) ?_
  rintro _ _ _ _ X21 ⟨rfl, q22, q23⟩ K21 _ C21
  have V24 := q23.as [.int 47, i0, .int ((pi1 >>> ((0 : Int32) &&& 31)).toInt8.toInt32), .int ((pi1 >>> ((8 : Int32) &&& 31)).toInt8.toInt32), .int ((pi2 >>> ((0 : Int32) &&& 31)).toInt8.toInt32), .int ((pi2 >>> ((8 : Int32) &&& 31)).toInt8.toInt32), i0, i0, i0, i0] rfl
  refine oJ 26 3 #[rr pa1, ii 3, ii 5, rr xa1_2, ii 2] X21 d36_23 rfl rfl (by decide) rfl <| oJ 29 3 #[rr pa1, ii 3, ii 5, rr xa1_2, ii 3] X21 d36_26 rfl rfl (by decide) rfl <| og 8 X21 d36_29 (by decide) <| oi 10 X21 d36_8 rfl rfl <| oI 11 X21 d36_10 rfl rfl <| oN 14 X21 d36_11 rfl (tlt (by decide)).2.1 <| oA 15 X21 d36_14 rfl rfl <| oi 17 X21 d36_15 rfl rfl <| oA 18 X21 d36_17 rfl rfl <| oI 19 X21 d36_18 rfl rfl ?_
  have f25 := f19.k1 K21 (by omega)
  refine oC 20 (v := (.int 47)) X21 f25 ⟨by decide, by decide⟩ rfl d36_19 rfl ?_
  have f26 := C21.safe (own_lt (by omega)) f20
  refine mS 23 0 X21 (rm_putChar G q22 V24 ⟨by decide, by decide⟩ ⟨by decide, by decide⟩ (Nat.le_of_ble_eq_true rfl) (Nat.le_of_ble_eq_true rfl) (by omega)) (u36 G) (sS (by omega) f26 all0) d36_20 rfl rfl rfl lr (by decide) (aR (by omega) all0) ?_
  rintro _ _ _ _ X27 ⟨rfl, q28, q29⟩ K27 _ C27
  have V30 := q29.as [.int 47, i0, .int ((pi1 >>> ((0 : Int32) &&& 31)).toInt8.toInt32), .int ((pi1 >>> ((8 : Int32) &&& 31)).toInt8.toInt32), .int ((pi2 >>> ((0 : Int32) &&& 31)).toInt8.toInt32), .int ((pi2 >>> ((8 : Int32) &&& 31)).toInt8.toInt32), .int 47, i0, i0, i0] rfl
  refine oJ 26 4 #[rr pa1, ii 4, ii 5, rr xa1_2, ii 3] X27 d36_23 rfl rfl (by decide) rfl <| oJ 29 4 #[rr pa1, ii 4, ii 5, rr xa1_2, ii 4] X27 d36_26 rfl rfl (by decide) rfl <| og 8 X27 d36_29 (by decide) <| oi 10 X27 d36_8 rfl rfl <| oI 11 X27 d36_10 rfl rfl <| oN 14 X27 d36_11 rfl (tlt (by decide)).2.1 <| oA 15 X27 d36_14 rfl rfl <| oi 17 X27 d36_15 rfl rfl <| oA 18 X27 d36_17 rfl rfl <| oI 19 X27 d36_18 rfl rfl ?_
  have f31 := f25.k1 K27 (by omega)
  refine oC 20 (v := (.int 42)) X27 f31 ⟨by decide, by decide⟩ rfl d36_19 rfl ?_
  have f32 := C27.safe (own_lt (by omega)) f26
  refine mS 23 0 X27 (rm_putChar G q28 V30 ⟨by decide, by decide⟩ ⟨by decide, by decide⟩ (Nat.le_of_ble_eq_true rfl) (Nat.le_of_ble_eq_true rfl) (by omega)) (u36 G) (sS (by omega) f32 all0) d36_20 rfl rfl rfl lr (by decide) (aR (by omega) all0) ?_
  rintro _ _ _ _ X33 ⟨rfl, q34, q35⟩ _ _ C33
  have V36 := q35.as [.int 47, i0, .int ((pi1 >>> ((0 : Int32) &&& 31)).toInt8.toInt32), .int ((pi1 >>> ((8 : Int32) &&& 31)).toInt8.toInt32), .int ((pi2 >>> ((0 : Int32) &&& 31)).toInt8.toInt32), .int ((pi2 >>> ((8 : Int32) &&& 31)).toInt8.toInt32), .int 47, i0, .int 42, i0] rfl
  refine oJ 26 5 #[rr pa1, ii 5, ii 5, rr xa1_2, ii 4] X33 d36_23 rfl rfl (by decide) rfl <| oJ 29 5 #[rr pa1, ii 5, ii 5, rr xa1_2, ii 5] X33 d36_26 rfl rfl (by decide) rfl <| og 8 X33 d36_29 (by decide) <| oi 10 X33 d36_8 rfl rfl <| oI 11 X33 d36_10 rfl rfl <| oY 32 X33 d36_11 (by decide) (flt (by decide)).2.1 <| oA 33 X33 d36_32 rfl rfl ?_
  have f37 := C33.safe (own_lt (by omega)) f32
  exact oR X33 d36_33 rfl rfl rfl (by decide) (by decide) (fun _ CC => ⟨xa1_2, xk1_3, rfl, V36, q34, (CC.safe (own_lt (by omega)) f37), by omega⟩)
theorem rm_au153 (G : GL l Z a0 zc fmt kpp) (F0 : av1 Z h0 pa1 pk1 5 [.int 47, .int pi1, .int pi2, .int 47, .int 42]) (rg_pi1 : ¬ pi1 < 0 ∧ ¬ (255 : Int32) < pi1) (bg_pi2 : (255 : Int32) < pi2 ∧ ¬ (65535 : Int32) < pi2) : M5 l Z 3 2 15 40 #[.ref pa1, i0, .int 5] h0 n0 [] [] (Q64 Z pi1 pi2 h0) := by
  refine mi B5 ef5 (hEW G) fun s X0 hsf0 n0le => ?_
  have l1 := F0.l
  refine oI 1 X0 d5_0 rfl rfl <| nP (aty := .byte) 3 5 X0 (w16 G) d5_1 rfl (by decide) had_byte ?_
  intro _ h1 b1 k1 X1 _ l1 E1 V1 A1 _ S1
  have V2 : av0 Z h1 b1 k1 5 [i0, i0, i0, i0, i0] := V1.pad (pad_rep [] (.int (0 : Int32)) 5)
  refine oV 4 (l' := #[rr pa1, ii 0, ii 5, rr b1, uu, uu]) X1 d5_3 rfl rfl rfl <| oA 5 X1 d5_4 rfl rfl <| oI 6 X1 d5_5 rfl rfl <| oA 7 X1 d5_6 rfl rfl <| oc 8 (v := 0) X1 d5_7 rfl (by decide) <| oI 9 X1 d5_8 rfl rfl ?_
  have f3 := F0.ext E1
  refine mS 12 0 X1 (rm_au151 G f3 V2 A1 rg_pi1 bg_pi2 (by omega)) (u2 G) (sS (by omega) S1 all0) d5_9 rfl rfl rfl lr (by decide) (aR (by omega) all0) ?_
  rintro _ _ _ _ X4 ⟨rfl, _, _⟩ K4 _ _
  refine oS 14 (l' := #[rr pa1, ii 0, ii 5, rr b1, ii 2, uu]) X4 d5_12 rfl rfl <| oi 16 X4 d5_14 rfl rfl <| oI 17 X4 d5_16 rfl rfl <| oN 20 X4 d5_17 rfl (feq (by decide)).1 <| oA 21 X4 d5_20 rfl rfl <| oI 22 X4 d5_21 rfl rfl <| oI 23 X4 d5_22 rfl rfl ?_
  have f7 := f3.k1 K4 (by omega)
  refine mS 26 0 X4 (rm_au152 G f7 rg_pi1 bg_pi2) (u37 G) all0 d5_23 rfl rfl rfl lr (by decide) all0 ?_
  rintro _ _ _ _ X8 ⟨xa1_9, xk1_10, rfl, q11, q12, q13, _⟩ _ _ _
  refine oU 28 (l' := #[rr pa1, ii 0, ii 5, rr b1, ii 2, rr xa1_9]) X8 d5_26 rfl rfl rfl <| oa 30 X8 d5_28 rfl rfl <| oi 32 X8 d5_30 rfl rfl <| mS 35 0 X8 (rm_getChar G q11 ⟨by decide, by decide⟩ ⟨by decide, by decide⟩ rfl rfl) (u38 G) all0 d5_32 rfl rfl rfl lr (by decide) all0 ?_
  rintro _ _ _ _ X15 rfl K15 _ C15
  refine o_sipush 38 (v := 255) X15 d5_35 rfl (by decide) <| oY 54 X15 d5_38 (by decide) (tlt (by rw [own_gcE bg_pi2]; exact bg_pi2.1)).2.2.1 <| oa 56 X15 d5_54 rfl rfl ?_
  have f16 := q11.k0 K15
  have f17 := q12.keep K15
  have f18 := C15.safe (own_lt (by omega)) q13
  exact oR X15 d5_56 rfl rfl rfl (by decide) (by decide) (fun _ CC => ⟨xa1_9, xk1_10, rfl, f16, f17, (CC.safe (own_lt (by omega)) f18), by omega⟩)
theorem rm_au154 (G : GL l Z a0 zc fmt kpp) (F0 : ex1 Z h0 pa1) (F1 : fd1 Z h0 pa1 (.int 0)) (F2 : fd0 Z h0 pa1 .null) (F3 : av1 Z h0 pa2 pk1 5 [.int 47, .int pi1, .int pi2, .int 47, .int 42]) (rg_pi1 : ¬ pi1 < 0 ∧ ¬ (255 : Int32) < pi1) (bg_pi2 : (255 : Int32) < pi2 ∧ ¬ (65535 : Int32) < pi2) (ne : NE pa1 pa2 ∧ n0 ≤ pa1) : M4 l Z 4 2 15 57 #[.ref pa1, .ref pa2, i0, .int 5, .null] h0 n0 [pa1] [pa1] (Q65 Z pa1 pi1 pi2 h0) := by
  refine mi B4 ef4 (hEW G) fun s X0 hsf0 n0le => ?_
  have := F0.l
  have := F3.l
  have sf_pa1 := hsf0 pa1 (by simp)
  refine oA 1 X0 d4_0 rfl rfl <| o_initO 4 (W := 0) X0 (w12 G) (w13 G) (w14 G) rfl (by decide) (Nat.le_of_eq rfl) (by decide) d4_1 rfl ?_
  intro _ X2
  refine oI 5 X2 d4_4 rfl rfl <| oy 27 X2 d4_5 (by decide) ((if0 _ _).trans (feq (by decide)).2) <| oG 30 X2 (w23 G) Via.refl ((sg5 G).ext X2.old.2) d4_27 rfl ?_
  intro _ X4
  refine on 33 X4 d4_30 rfl ((if0 _ _).trans (feq (hzc G)).1) <| oA 34 X4 d4_33 rfl rfl <| oI 35 X4 d4_34 rfl rfl <| oI 36 X4 d4_35 rfl rfl <| mS 39 0 X4 (rm_au153 G F3 rg_pi1 bg_pi2) (u3 G) all0 d4_36 rfl rfl rfl lr (by decide) all0 ?_
  rintro _ _ _ _ X5 ⟨xa1_6, xk1_7, rfl, q8, q9, q10, _⟩ K5 _ C5
  refine oU 41 (l' := #[rr pa1, rr pa2, ii 0, ii 5, .val .null, rr xa1_6]) X5 d4_39 rfl rfl rfl <| oA 42 X5 d4_41 rfl rfl <| oa 44 X5 d4_42 rfl rfl <| oI 45 X5 d4_44 rfl rfl <| mS 48 1 X5 (rm_au124 G q8) (u4 G) all0 d4_45 rfl rfl rfl lr (by decide) all0 ?_
  rintro _ _ _ _ X12 rfl K12 _ C12
  have f13 := (F1.k0 K5).k0 K12
  have f14 := (F0.keep K5).keep K12
  have f16 := C12.safe (own_lt (by omega)) (C5.safe (own_lt (by omega)) sf_pa1)
  refine oP 51 (v' := (.int 1)) X12 (w22 G) Via.refl f13 f14 (Or.inr ⟨(w18 G), rfl, rfl⟩) (w2 G) fd_1 rfl rfl d4_48 rfl (by omega) (Or.inl (by simp)) f16 ?_
  intro _ _ X15 W15 C15
  have := W15.size
  have f17 := f13.same W15
  refine oA 52 X15 d4_51 rfl rfl <| oa 54 X15 d4_52 rfl rfl ?_
  have f18 := ((F2.k0 K5).k0 K12).other W15 (Or.inr (sn1 G))
  have f19 := f14.wr W15
  have f21 := C15.safe (own_lt (by omega)) f16
  refine oP 57 (v' := (.ref xa1_6)) X15 (w21 G) Via.refl f18 f19 (Or.inr ⟨(w17 G), rfl, rfl⟩) (w2 G) fd_0 rfl rfl d4_54 rfl (by omega) (Or.inl (by simp)) f21 ?_
  intro _ _ X20 W20 C20
  have := W20.size
  have f22 := f18.same W20
  have f23 := f19.wr W20
  have f24 := f17.other W20 (Or.inr (sn0 G))
  have f25 := ((q8.k0 K12).oth W15 (by omega)).oth W20 (by omega)
  have f26 := ((q9.keep K12).wr W15).wr W20
  have f27 := C20.safe (own_lt (by omega)) (C15.safe (own_lt (by omega)) (C12.safe (own_lt (by omega)) q10))
  exact oz X20 d4_57 rfl (by decide) (by decide) (fun _ CC => ⟨xa1_6, xk1_7, rfl, f23, f24, f22, f25, f26, (CC.safe (own_lt (by omega)) f27), by omega⟩)
theorem rm_au155 (G : GL l Z a0 zc fmt kpp) (F0 : ex1 Z h0 pa1) (F1 : fd1 Z h0 pa1 (.int 0)) (F2 : fd0 Z h0 pa1 .null) (F3 : av1 Z h0 pa2 pk1 5 [.int 47, .int pi1, .int pi2, .int 47, .int 42]) (rg_pi1 : ¬ pi1 < 0 ∧ ¬ (255 : Int32) < pi1) (bg_pi2 : (255 : Int32) < pi2 ∧ ¬ (65535 : Int32) < pi2) (ne : NE pa1 pa2 ∧ n0 ≤ pa1) : M3 l Z 5 2 15 74 #[.ref pa1, .ref pa2] h0 n0 [pa1] [pa1] (Q65 Z pa1 pi1 pi2 h0) := by
  refine mi B3 ef3 (hEW G) fun s X0 hsf0 n0le => ?_
  have := F0.l
  have := F3.l
  have sf_pa1 := hsf0 pa1 (by simp)
  refine oA 1 X0 d3_0 rfl rfl <| oA 2 X0 d3_1 rfl rfl <| oc 3 (v := 0) X0 d3_2 rfl (by decide) <| oA 4 X0 d3_3 rfl rfl <| oL 5 X0 F3 d3_4 rfl <| o_aconstNull 6 X0 d3_5 rfl <| mP 9 0 X0 (rm_au154 G F0 F1 F2 F3 rg_pi1 bg_pi2 (by omega)) (u0 G) (sS (by omega) sf_pa1 all0) d3_6 rfl rfl rfl lr (by decide) (aI (by omega) (by simp) all0) ?_
  rintro _ _ _ _ X1 ⟨xa1_2, xk1_3, rfl, q4, q5, q6, q7, q8, q9, _⟩ _ _ _
  exact oz X1 d3_9 rfl (by decide) (by decide) (fun _ CC => ⟨xa1_2, xk1_3, rfl, q4, q5, q6, q7, q8, (CC.safe (own_lt (by omega)) q9), by omega⟩)
def Q78 (Z : State) (b1 : Addr) (b2 : ClassId) (b3 b4 : Int32) (h0 : Heap) (v : Option Value) (h : Heap) (vm : Vm) : Prop := v = some (.int 3) ∧ av0 Z h b1 b2 3 [.int 47, .int (b3.toInt8.toInt32), .int (b4.toInt8.toInt32)] ∧ ex0 Z h b1
theorem rm_au156 (G : GL l Z a0 zc fmt kpp) (F0 : av1 Z h0 pa1 pk1 3 [.int 47, .int pi1, .int pi2]) (F1 : av0 Z h0 pa2 pk2 3 [i0, i0, i0]) (F2 : ex0 Z h0 pa2) (rg_pi1 : ¬ pi1 < 0 ∧ ¬ (255 : Int32) < pi1) (rg_pi2 : ¬ pi2 < 0 ∧ ¬ (255 : Int32) < pi2) (ne : NE pa1 pa2 ∧ n0 ≤ pa2) : M6 l Z 0 0 0 0 #[.ref pa1, i0, .ref pa2, i0, .int 3] h0 n0 [pa2] [pa2] (Q78 Z pa2 pk2 pi1 pi2 h0) := by
  refine mi B6 ef6 (hEW G) fun s X0 hsf0 n0le => ?_
  have := F0.l
  have := F1.l
  have sf_pa2 := hsf0 pa2 (by simp)
  refine oc 1 (v := 0) X0 d6_0 rfl (by decide) <| oS 3 (l' := #[rr pa1, ii 0, rr pa2, ii 0, ii 3, ii 0, uu]) X0 d6_1 rfl rfl <| oi 5 X0 d6_3 rfl rfl <| oi 7 X0 d6_5 rfl rfl <| oN 10 X0 d6_7 rfl (tlt (by decide)).2.1 <| oA 11 X0 d6_10 rfl rfl <| oI 12 X0 d6_11 rfl rfl <| oC 13 (v := (.int 47)) X0 F0 ⟨by decide, by decide⟩ rfl d6_12 rfl <| oS 15 (l' := #[rr pa1, ii 0, rr pa2, ii 0, ii 3, ii 0, ii 47]) X0 d6_13 rfl rfl <| oi 17 X0 d6_15 rfl rfl <| o_sipush 20 (v := 255) X0 d6_17 rfl (by decide) <| oY 26 X0 d6_20 (by decide) (flt (by decide)).2.2.2 ?_
  refine oA 27 X0 d6_26 rfl rfl <| oI 28 X0 d6_27 rfl rfl <| oi 30 X0 d6_28 rfl rfl <| o_i2b 31 (v := 47) X0 d6_30 rfl (by decide) <| sB 32 0 47 X0 F1 (by decide) (lb rfl) (by decide) d6_31 rfl (by omega) (Or.inl (by simp)) sf_pa2 ?_
  rintro _ _ X1 ⟨_, _, W1⟩ C1 V1
  have := W1.size
  have V2 := V1.as [.int 47, i0, i0] rfl
  refine oJ 35 1 #[rr pa1, ii 1, rr pa2, ii 0, ii 3, ii 0, ii 47] X1 d6_32 rfl rfl (by decide) rfl <| oJ 38 1 #[rr pa1, ii 1, rr pa2, ii 1, ii 3, ii 0, ii 47] X1 d6_35 rfl rfl (by decide) rfl <| oJ 41 1 #[rr pa1, ii 1, rr pa2, ii 1, ii 3, ii 1, ii 47] X1 d6_38 rfl rfl (by decide) rfl <| og 3 X1 d6_41 (by decide) <| oi 5 X1 d6_3 rfl rfl <| oi 7 X1 d6_5 rfl rfl <| oN 10 X1 d6_7 rfl (tlt (by decide)).2.1 <| oA 11 X1 d6_10 rfl rfl <| oI 12 X1 d6_11 rfl rfl ?_
  have f3 := F0.oth W1 (by omega)
  refine oC 13 (v := (.int pi1)) X1 f3 ⟨by decide, by decide⟩ rfl d6_12 rfl <| oS 15 (l' := #[rr pa1, ii 1, rr pa2, ii 1, ii 3, ii 1, ii pi1]) X1 d6_13 rfl rfl <| oi 17 X1 d6_15 rfl rfl <| o_sipush 20 (v := 255) X1 d6_17 rfl (by decide) <| oY 26 X1 d6_20 (by decide) (flt rg_pi1.2).2.2.2 <| oA 27 X1 d6_26 rfl rfl <| oI 28 X1 d6_27 rfl rfl <| oi 30 X1 d6_28 rfl rfl <| o_i2b 31 (v := (pi1.toInt8.toInt32)) X1 d6_30 rfl rfl ?_
  have f5 := C1.safe (own_lt (by omega)) sf_pa2
  refine sB 32 1 (pi1.toInt8.toInt32) X1 V2 (by decide) (lb rfl) (own_narB _) d6_31 rfl (by omega) (Or.inl (by simp)) f5 ?_
  rintro _ _ X4 ⟨_, _, W4⟩ C4 V4
  have := W4.size
  have V6 := V4.as [.int 47, .int (pi1.toInt8.toInt32), i0] rfl
  refine oJ 35 2 #[rr pa1, ii 2, rr pa2, ii 1, ii 3, ii 1, ii pi1] X4 d6_32 rfl rfl (by decide) rfl <| oJ 38 2 #[rr pa1, ii 2, rr pa2, ii 2, ii 3, ii 1, ii pi1] X4 d6_35 rfl rfl (by decide) rfl <| oJ 41 2 #[rr pa1, ii 2, rr pa2, ii 2, ii 3, ii 2, ii pi1] X4 d6_38 rfl rfl (by decide) rfl <| og 3 X4 d6_41 (by decide) <| oi 5 X4 d6_3 rfl rfl <| oi 7 X4 d6_5 rfl rfl <| oN 10 X4 d6_7 rfl (tlt (by decide)).2.1 <| oA 11 X4 d6_10 rfl rfl <| oI 12 X4 d6_11 rfl rfl ?_
  have f7 := f3.oth W4 (by omega)
  refine oC 13 (v := (.int pi2)) X4 f7 ⟨by decide, by decide⟩ rfl d6_12 rfl <| oS 15 (l' := #[rr pa1, ii 2, rr pa2, ii 2, ii 3, ii 2, ii pi2]) X4 d6_13 rfl rfl <| oi 17 X4 d6_15 rfl rfl <| o_sipush 20 (v := 255) X4 d6_17 rfl (by decide) <| oY 26 X4 d6_20 (by decide) (flt rg_pi2.2).2.2.2 <| oA 27 X4 d6_26 rfl rfl <| oI 28 X4 d6_27 rfl rfl <| oi 30 X4 d6_28 rfl rfl <| o_i2b 31 (v := (pi2.toInt8.toInt32)) X4 d6_30 rfl rfl ?_
  have f9 := C4.safe (own_lt (by omega)) f5
  refine sB 32 2 (pi2.toInt8.toInt32) X4 V6 (by decide) (lb rfl) (own_narB _) d6_31 rfl (by omega) (Or.inl (by simp)) f9 ?_
  rintro _ _ X8 ⟨_, _, W8⟩ _ V8
  have := W8.size
  have V10 := V8.as [.int 47, .int (pi1.toInt8.toInt32), .int (pi2.toInt8.toInt32)] rfl
  refine oJ 35 3 #[rr pa1, ii 3, rr pa2, ii 2, ii 3, ii 2, ii pi2] X8 d6_32 rfl rfl (by decide) rfl <| oJ 38 3 #[rr pa1, ii 3, rr pa2, ii 3, ii 3, ii 2, ii pi2] X8 d6_35 rfl rfl (by decide) rfl <| oJ 41 3 #[rr pa1, ii 3, rr pa2, ii 3, ii 3, ii 3, ii pi2] X8 d6_38 rfl rfl (by decide) rfl <| og 3 X8 d6_41 (by decide) <| oi 5 X8 d6_3 rfl rfl <| oi 7 X8 d6_5 rfl rfl <| oY 44 X8 d6_7 (by decide) (flt (by decide)).2.1 <| oi 46 X8 d6_44 rfl rfl ?_
  have f11 := ((F2.wr W1).wr W4).wr W8
  exact o_iret X8 d6_46 rfl (by decide) (by decide) (fun _ CC => ⟨rfl, V10, f11⟩)
def Q79 (Z : State) (b1 b2 : Int32) (h0 : Heap) (v : Option Value) (h : Heap) (vm : Vm) : Prop := ∃ (xa1 : Addr) (xk1 : ClassId), v = some (.ref xa1) ∧ av0 Z h xa1 xk1 3 [.int 47, .int (b1.toInt8.toInt32), .int (b2.toInt8.toInt32)] ∧ ex0 Z h xa1 ∧ Safe Z EL0 vm h xa1 ∧ h0.size ≤ xa1 ∧ h.size > xa1
theorem rm_au157 (G : GL l Z a0 zc fmt kpp) (F0 : av1 Z h0 pa1 pk1 3 [.int 47, .int pi1, .int pi2]) (rg_pi1 : ¬ pi1 < 0 ∧ ¬ (255 : Int32) < pi1) (rg_pi2 : ¬ pi2 < 0 ∧ ¬ (255 : Int32) < pi2) : M5 l Z 1 1 3 18 #[.ref pa1, i0, .int 3] h0 n0 [] [] (Q79 Z pi1 pi2 h0) := by
  refine mi B5 ef5 (hEW G) fun s X0 hsf0 n0le => ?_
  have l1 := F0.l
  refine oI 1 X0 d5_0 rfl rfl <| nP (aty := .byte) 3 3 X0 (w16 G) d5_1 rfl (by decide) had_byte ?_
  intro _ h1 b1 k1 X1 _ l1 E1 V1 A1 _ S1
  have V2 : av0 Z h1 b1 k1 3 [i0, i0, i0] := V1.pad (pad_rep [] (.int (0 : Int32)) 3)
  refine oV 4 (l' := #[rr pa1, ii 0, ii 3, rr b1, uu, uu]) X1 d5_3 rfl rfl rfl <| oA 5 X1 d5_4 rfl rfl <| oI 6 X1 d5_5 rfl rfl <| oA 7 X1 d5_6 rfl rfl <| oc 8 (v := 0) X1 d5_7 rfl (by decide) <| oI 9 X1 d5_8 rfl rfl ?_
  have f3 := F0.ext E1
  refine mS 12 0 X1 (rm_au156 G f3 V2 A1 rg_pi1 rg_pi2 (by omega)) (u2 G) (sS (by omega) S1 all0) d5_9 rfl rfl rfl lr (by decide) (aR (by omega) all0) ?_
  rintro _ _ _ _ X4 ⟨rfl, q5, q6⟩ _ _ C4
  refine oS 14 (l' := #[rr pa1, ii 0, ii 3, rr b1, ii 3, uu]) X4 d5_12 rfl rfl <| oi 16 X4 d5_14 rfl rfl <| oI 17 X4 d5_16 rfl rfl <| oY 57 X4 d5_17 (by decide) (teq (by decide)).1 <| oA 58 X4 d5_57 rfl rfl ?_
  have f7 := C4.safe (own_lt (by omega)) S1
  exact oR X4 d5_58 rfl rfl rfl (by decide) (by decide) (fun _ CC => ⟨b1, k1, rfl, q5, q6, (CC.safe (own_lt (by omega)) f7), by omega⟩)
theorem rm_au158 (G : GL l Z a0 zc fmt kpp) (F0 : av0 Z h0 pa1 pk1 3 ps_pa1) : M7 l Z 0 0 0 0 #[.ref pa1, .int 3] h0 n0 [] [] (Q5 Z  h0) := by
  refine mi B7 ef1 (hEW G) fun s X0 hsf0 n0le => ?_
  have := F0.l
  refine oI 1 X0 d7_0 rfl rfl <| oA 2 X0 d7_1 rfl rfl <| oL 3 X0 F0 d7_2 rfl <| o_isub 4 (v := 0) X0 d7_3 rfl (by decide) <| ob 6 (v := 31) X0 d7_4 rfl (by decide) <| o_iushr 7 (v := 0) X0 d7_6 rfl (by decide) <| o_i2b 8 (v := 0) X0 d7_7 rfl (by decide) ?_
  exact o_nret (y := (0 : Int32)) (t := .byte) X0 d7_8 rfl (by decide) (by simp) (by decide) (by decide) (fun _ CC => rfl)
def Q80 (Z : State) (b1 : Addr) (b2 b3 : Int32) (h0 : Heap) (v : Option Value) (h : Heap) (vm : Vm) : Prop := ∃ (xa1 : Addr) (xk1 : ClassId), v = none ∧ ex1 Z h b1 ∧ fd1 Z h b1 (.int 0) ∧ fd0 Z h b1 (.ref xa1) ∧ av0 Z h xa1 xk1 3 [.int 47, .int (b2.toInt8.toInt32), .int (b3.toInt8.toInt32)] ∧ ex0 Z h xa1 ∧ Safe Z EL0 vm h xa1 ∧ h0.size ≤ xa1 ∧ h.size > xa1
theorem rm_au159 (G : GL l Z a0 zc fmt kpp) (F0 : ex1 Z h0 pa1) (F1 : fd1 Z h0 pa1 (.int 0)) (F2 : fd0 Z h0 pa1 .null) (F3 : av1 Z h0 pa2 pk1 3 [.int 47, .int pi1, .int pi2]) (rg_pi1 : ¬ pi1 < 0 ∧ ¬ (255 : Int32) < pi1) (rg_pi2 : ¬ pi2 < 0 ∧ ¬ (255 : Int32) < pi2) (ne : NE pa1 pa2 ∧ n0 ≤ pa1) : M4 l Z 2 1 3 35 #[.ref pa1, .ref pa2, i0, .int 3, .null] h0 n0 [pa1] [pa1] (Q80 Z pa1 pi1 pi2 h0) := by
  refine mi B4 ef4 (hEW G) fun s X0 hsf0 n0le => ?_
  have := F0.l
  have := F3.l
  have sf_pa1 := hsf0 pa1 (by simp)
  refine oA 1 X0 d4_0 rfl rfl <| o_initO 4 (W := 0) X0 (w12 G) (w13 G) (w14 G) rfl (by decide) (Nat.le_of_eq rfl) (by decide) d4_1 rfl ?_
  intro _ X2
  refine oI 5 X2 d4_4 rfl rfl <| oy 27 X2 d4_5 (by decide) ((if0 _ _).trans (feq (by decide)).2) <| oG 30 X2 (w23 G) Via.refl ((sg5 G).ext X2.old.2) d4_27 rfl ?_
  intro _ X4
  refine on 33 X4 d4_30 rfl ((if0 _ _).trans (feq (hzc G)).1) <| oA 34 X4 d4_33 rfl rfl <| oI 35 X4 d4_34 rfl rfl <| oI 36 X4 d4_35 rfl rfl <| mS 39 0 X4 (rm_au157 G F3 rg_pi1 rg_pi2) (u3 G) all0 d4_36 rfl rfl rfl lr (by decide) all0 ?_
  rintro _ _ _ _ X5 ⟨xa1_6, xk1_7, rfl, q8, q9, q10, _⟩ K5 _ C5
  refine oU 41 (l' := #[rr pa1, rr pa2, ii 0, ii 3, .val .null, rr xa1_6]) X5 d4_39 rfl rfl rfl <| oA 42 X5 d4_41 rfl rfl <| oa 44 X5 d4_42 rfl rfl <| oI 45 X5 d4_44 rfl rfl <| mS 48 1 X5 (rm_au158 G q8) (u4 G) all0 d4_45 rfl rfl rfl lr (by decide) all0 ?_
  rintro _ _ _ _ X12 rfl K12 _ C12
  have f13 := (F1.k0 K5).k0 K12
  have f14 := (F0.keep K5).keep K12
  have f16 := C12.safe (own_lt (by omega)) (C5.safe (own_lt (by omega)) sf_pa1)
  refine oP 51 (v' := (.int 0)) X12 (w22 G) Via.refl f13 f14 (Or.inr ⟨(w18 G), rfl, rfl⟩) (w2 G) fd_1 rfl rfl d4_48 rfl (by omega) (Or.inl (by simp)) f16 ?_
  intro _ _ X15 W15 C15
  have := W15.size
  have f17 := f13.same W15
  refine oA 52 X15 d4_51 rfl rfl <| oa 54 X15 d4_52 rfl rfl ?_
  have f18 := ((F2.k0 K5).k0 K12).other W15 (Or.inr (sn1 G))
  have f19 := f14.wr W15
  have f21 := C15.safe (own_lt (by omega)) f16
  refine oP 57 (v' := (.ref xa1_6)) X15 (w21 G) Via.refl f18 f19 (Or.inr ⟨(w17 G), rfl, rfl⟩) (w2 G) fd_0 rfl rfl d4_54 rfl (by omega) (Or.inl (by simp)) f21 ?_
  intro _ _ X20 W20 C20
  have := W20.size
  have f22 := f18.same W20
  have f23 := f19.wr W20
  have f24 := f17.other W20 (Or.inr (sn0 G))
  have f25 := ((q8.k0 K12).oth W15 (by omega)).oth W20 (by omega)
  have f26 := ((q9.keep K12).wr W15).wr W20
  have f27 := C20.safe (own_lt (by omega)) (C15.safe (own_lt (by omega)) (C12.safe (own_lt (by omega)) q10))
  exact oz X20 d4_57 rfl (by decide) (by decide) (fun _ CC => ⟨xa1_6, xk1_7, rfl, f23, f24, f22, f25, f26, (CC.safe (own_lt (by omega)) f27), by omega⟩)
theorem rm_au160 (G : GL l Z a0 zc fmt kpp) (F0 : ex1 Z h0 pa1) (F1 : fd1 Z h0 pa1 (.int 0)) (F2 : fd0 Z h0 pa1 .null) (F3 : av1 Z h0 pa2 pk1 3 [.int 47, .int pi1, .int pi2]) (rg_pi1 : ¬ pi1 < 0 ∧ ¬ (255 : Int32) < pi1) (rg_pi2 : ¬ pi2 < 0 ∧ ¬ (255 : Int32) < pi2) (ne : NE pa1 pa2 ∧ n0 ≤ pa1) : M3 l Z 3 1 3 52 #[.ref pa1, .ref pa2] h0 n0 [pa1] [pa1] (Q80 Z pa1 pi1 pi2 h0) := by
  refine mi B3 ef3 (hEW G) fun s X0 hsf0 n0le => ?_
  have := F0.l
  have := F3.l
  have sf_pa1 := hsf0 pa1 (by simp)
  refine oA 1 X0 d3_0 rfl rfl <| oA 2 X0 d3_1 rfl rfl <| oc 3 (v := 0) X0 d3_2 rfl (by decide) <| oA 4 X0 d3_3 rfl rfl <| oL 5 X0 F3 d3_4 rfl <| o_aconstNull 6 X0 d3_5 rfl <| mP 9 0 X0 (rm_au159 G F0 F1 F2 F3 rg_pi1 rg_pi2 (by omega)) (u0 G) (sS (by omega) sf_pa1 all0) d3_6 rfl rfl rfl lr (by decide) (aI (by omega) (by simp) all0) ?_
  rintro _ _ _ _ X1 ⟨xa1_2, xk1_3, rfl, q4, q5, q6, q7, q8, q9, _⟩ _ _ _
  exact oz X1 d3_9 rfl (by decide) (by decide) (fun _ CC => ⟨xa1_2, xk1_3, rfl, q4, q5, q6, q7, q8, (CC.safe (own_lt (by omega)) q9), by omega⟩)
def Q81 (Z : State) (b1 : Addr) (b2 : ClassId) (b3 b4 : Int32) (h0 : Heap) (v : Option Value) (h : Heap) (vm : Vm) : Prop := v = some (.int 5) ∧ av0 Z h b1 b2 5 [.int 47, .int (b3.toInt8.toInt32), .int (b4.toInt8.toInt32), .int 47, .int 42] ∧ ex0 Z h b1
theorem rm_au161 (G : GL l Z a0 zc fmt kpp) (F0 : av1 Z h0 pa1 pk1 5 [.int 47, .int pi1, .int pi2, .int 47, .int 42]) (F1 : av0 Z h0 pa2 pk2 5 [i0, i0, i0, i0, i0]) (F2 : ex0 Z h0 pa2) (rg_pi1 : ¬ pi1 < 0 ∧ ¬ (255 : Int32) < pi1) (rg_pi2 : ¬ pi2 < 0 ∧ ¬ (255 : Int32) < pi2) (ne : NE pa1 pa2 ∧ n0 ≤ pa2) : M6 l Z 0 0 0 0 #[.ref pa1, i0, .ref pa2, i0, .int 5] h0 n0 [pa2] [pa2] (Q81 Z pa2 pk2 pi1 pi2 h0) := by
  refine mi B6 ef6 (hEW G) fun s X0 hsf0 n0le => ?_
  have := F0.l
  have := F1.l
  have sf_pa2 := hsf0 pa2 (by simp)
  refine oc 1 (v := 0) X0 d6_0 rfl (by decide) <| oS 3 (l' := #[rr pa1, ii 0, rr pa2, ii 0, ii 5, ii 0, uu]) X0 d6_1 rfl rfl <| oi 5 X0 d6_3 rfl rfl <| oi 7 X0 d6_5 rfl rfl <| oN 10 X0 d6_7 rfl (tlt (by decide)).2.1 <| oA 11 X0 d6_10 rfl rfl <| oI 12 X0 d6_11 rfl rfl <| oC 13 (v := (.int 47)) X0 F0 ⟨by decide, by decide⟩ rfl d6_12 rfl <| oS 15 (l' := #[rr pa1, ii 0, rr pa2, ii 0, ii 5, ii 0, ii 47]) X0 d6_13 rfl rfl <| oi 17 X0 d6_15 rfl rfl <| o_sipush 20 (v := 255) X0 d6_17 rfl (by decide) <| oY 26 X0 d6_20 (by decide) (flt (by decide)).2.2.2 ?_
  refine oA 27 X0 d6_26 rfl rfl <| oI 28 X0 d6_27 rfl rfl <| oi 30 X0 d6_28 rfl rfl <| o_i2b 31 (v := 47) X0 d6_30 rfl (by decide) <| sB 32 0 47 X0 F1 (by decide) (lb rfl) (by decide) d6_31 rfl (by omega) (Or.inl (by simp)) sf_pa2 ?_
  rintro _ _ X1 ⟨_, _, W1⟩ C1 V1
  have := W1.size
  have V2 := V1.as [.int 47, i0, i0, i0, i0] rfl
  refine oJ 35 1 #[rr pa1, ii 1, rr pa2, ii 0, ii 5, ii 0, ii 47] X1 d6_32 rfl rfl (by decide) rfl <| oJ 38 1 #[rr pa1, ii 1, rr pa2, ii 1, ii 5, ii 0, ii 47] X1 d6_35 rfl rfl (by decide) rfl <| oJ 41 1 #[rr pa1, ii 1, rr pa2, ii 1, ii 5, ii 1, ii 47] X1 d6_38 rfl rfl (by decide) rfl <| og 3 X1 d6_41 (by decide) <| oi 5 X1 d6_3 rfl rfl <| oi 7 X1 d6_5 rfl rfl <| oN 10 X1 d6_7 rfl (tlt (by decide)).2.1 <| oA 11 X1 d6_10 rfl rfl <| oI 12 X1 d6_11 rfl rfl ?_
  have f3 := F0.oth W1 (by omega)
  refine oC 13 (v := (.int pi1)) X1 f3 ⟨by decide, by decide⟩ rfl d6_12 rfl <| oS 15 (l' := #[rr pa1, ii 1, rr pa2, ii 1, ii 5, ii 1, ii pi1]) X1 d6_13 rfl rfl <| oi 17 X1 d6_15 rfl rfl <| o_sipush 20 (v := 255) X1 d6_17 rfl (by decide) <| oY 26 X1 d6_20 (by decide) (flt rg_pi1.2).2.2.2 <| oA 27 X1 d6_26 rfl rfl <| oI 28 X1 d6_27 rfl rfl <| oi 30 X1 d6_28 rfl rfl <| o_i2b 31 (v := (pi1.toInt8.toInt32)) X1 d6_30 rfl rfl ?_
  have f5 := C1.safe (own_lt (by omega)) sf_pa2
  refine sB 32 1 (pi1.toInt8.toInt32) X1 V2 (by decide) (lb rfl) (own_narB _) d6_31 rfl (by omega) (Or.inl (by simp)) f5 ?_
  rintro _ _ X4 ⟨_, _, W4⟩ C4 V4
  have := W4.size
  have V6 := V4.as [.int 47, .int (pi1.toInt8.toInt32), i0, i0, i0] rfl
  refine oJ 35 2 #[rr pa1, ii 2, rr pa2, ii 1, ii 5, ii 1, ii pi1] X4 d6_32 rfl rfl (by decide) rfl <| oJ 38 2 #[rr pa1, ii 2, rr pa2, ii 2, ii 5, ii 1, ii pi1] X4 d6_35 rfl rfl (by decide) rfl <| oJ 41 2 #[rr pa1, ii 2, rr pa2, ii 2, ii 5, ii 2, ii pi1] X4 d6_38 rfl rfl (by decide) rfl <| og 3 X4 d6_41 (by decide) <| oi 5 X4 d6_3 rfl rfl <| oi 7 X4 d6_5 rfl rfl <| oN 10 X4 d6_7 rfl (tlt (by decide)).2.1 <| oA 11 X4 d6_10 rfl rfl <| oI 12 X4 d6_11 rfl rfl ?_
  have f7 := f3.oth W4 (by omega)
  refine oC 13 (v := (.int pi2)) X4 f7 ⟨by decide, by decide⟩ rfl d6_12 rfl <| oS 15 (l' := #[rr pa1, ii 2, rr pa2, ii 2, ii 5, ii 2, ii pi2]) X4 d6_13 rfl rfl <| oi 17 X4 d6_15 rfl rfl <| o_sipush 20 (v := 255) X4 d6_17 rfl (by decide) <| oY 26 X4 d6_20 (by decide) (flt rg_pi2.2).2.2.2 <| oA 27 X4 d6_26 rfl rfl <| oI 28 X4 d6_27 rfl rfl <| oi 30 X4 d6_28 rfl rfl <| o_i2b 31 (v := (pi2.toInt8.toInt32)) X4 d6_30 rfl rfl ?_
  have f9 := C4.safe (own_lt (by omega)) f5
  refine sB 32 2 (pi2.toInt8.toInt32) X4 V6 (by decide) (lb rfl) (own_narB _) d6_31 rfl (by omega) (Or.inl (by simp)) f9 ?_
  rintro _ _ X8 ⟨_, _, W8⟩ C8 V8
  have := W8.size
  have V10 := V8.as [.int 47, .int (pi1.toInt8.toInt32), .int (pi2.toInt8.toInt32), i0, i0] rfl
  refine oJ 35 3 #[rr pa1, ii 3, rr pa2, ii 2, ii 5, ii 2, ii pi2] X8 d6_32 rfl rfl (by decide) rfl <| oJ 38 3 #[rr pa1, ii 3, rr pa2, ii 3, ii 5, ii 2, ii pi2] X8 d6_35 rfl rfl (by decide) rfl <| oJ 41 3 #[rr pa1, ii 3, rr pa2, ii 3, ii 5, ii 3, ii pi2] X8 d6_38 rfl rfl (by decide) rfl <| og 3 X8 d6_41 (by decide) <| oi 5 X8 d6_3 rfl rfl <| oi 7 X8 d6_5 rfl rfl <| oN 10 X8 d6_7 rfl (tlt (by decide)).2.1 <| oA 11 X8 d6_10 rfl rfl <| oI 12 X8 d6_11 rfl rfl ?_
  have f11 := f7.oth W8 (by omega)
  refine oC 13 (v := (.int 47)) X8 f11 ⟨by decide, by decide⟩ rfl d6_12 rfl <| oS 15 (l' := #[rr pa1, ii 3, rr pa2, ii 3, ii 5, ii 3, ii 47]) X8 d6_13 rfl rfl <| oi 17 X8 d6_15 rfl rfl <| o_sipush 20 (v := 255) X8 d6_17 rfl (by decide) <| oY 26 X8 d6_20 (by decide) (flt (by decide)).2.2.2 <| oA 27 X8 d6_26 rfl rfl <| oI 28 X8 d6_27 rfl rfl <| oi 30 X8 d6_28 rfl rfl <| o_i2b 31 (v := 47) X8 d6_30 rfl (by decide) ?_
  have f13 := C8.safe (own_lt (by omega)) f9
  refine sB 32 3 47 X8 V10 (by decide) (lb rfl) (by decide) d6_31 rfl (by omega) (Or.inl (by simp)) f13 ?_
  rintro _ _ X12 ⟨_, _, W12⟩ C12 V12
  have := W12.size
  have V14 := V12.as [.int 47, .int (pi1.toInt8.toInt32), .int (pi2.toInt8.toInt32), .int 47, i0] rfl
  refine oJ 35 4 #[rr pa1, ii 4, rr pa2, ii 3, ii 5, ii 3, ii 47] X12 d6_32 rfl rfl (by decide) rfl <| oJ 38 4 #[rr pa1, ii 4, rr pa2, ii 4, ii 5, ii 3, ii 47] X12 d6_35 rfl rfl (by decide) rfl <| oJ 41 4 #[rr pa1, ii 4, rr pa2, ii 4, ii 5, ii 4, ii 47] X12 d6_38 rfl rfl (by decide) rfl <| og 3 X12 d6_41 (by decide) <| oi 5 X12 d6_3 rfl rfl <| oi 7 X12 d6_5 rfl rfl <| oN 10 X12 d6_7 rfl (tlt (by decide)).2.1 <| oA 11 X12 d6_10 rfl rfl <| oI 12 X12 d6_11 rfl rfl ?_
  have f15 := f11.oth W12 (by omega)
  refine oC 13 (v := (.int 42)) X12 f15 ⟨by decide, by decide⟩ rfl d6_12 rfl <| oS 15 (l' := #[rr pa1, ii 4, rr pa2, ii 4, ii 5, ii 4, ii 42]) X12 d6_13 rfl rfl <| oi 17 X12 d6_15 rfl rfl <| o_sipush 20 (v := 255) X12 d6_17 rfl (by decide) <| oY 26 X12 d6_20 (by decide) (flt (by decide)).2.2.2 <| oA 27 X12 d6_26 rfl rfl <| oI 28 X12 d6_27 rfl rfl <| oi 30 X12 d6_28 rfl rfl <| o_i2b 31 (v := 42) X12 d6_30 rfl (by decide) ?_
  have f17 := C12.safe (own_lt (by omega)) f13
  refine sB 32 4 42 X12 V14 (by decide) (lb rfl) (by decide) d6_31 rfl (by omega) (Or.inl (by simp)) f17 ?_
  rintro _ _ X16 ⟨_, _, W16⟩ _ V16
  have := W16.size
  have V18 := V16.as [.int 47, .int (pi1.toInt8.toInt32), .int (pi2.toInt8.toInt32), .int 47, .int 42] rfl
  refine oJ 35 5 #[rr pa1, ii 5, rr pa2, ii 4, ii 5, ii 4, ii 42] X16 d6_32 rfl rfl (by decide) rfl <| oJ 38 5 #[rr pa1, ii 5, rr pa2, ii 5, ii 5, ii 4, ii 42] X16 d6_35 rfl rfl (by decide) rfl <| oJ 41 5 #[rr pa1, ii 5, rr pa2, ii 5, ii 5, ii 5, ii 42] X16 d6_38 rfl rfl (by decide) rfl <| og 3 X16 d6_41 (by decide) <| oi 5 X16 d6_3 rfl rfl <| oi 7 X16 d6_5 rfl rfl <| oY 44 X16 d6_7 (by decide) (flt (by decide)).2.1 <| oi 46 X16 d6_44 rfl rfl ?_
  have f19 := ((((F2.wr W1).wr W4).wr W8).wr W12).wr W16
  exact o_iret X16 d6_46 rfl (by decide) (by decide) (fun _ CC => ⟨rfl, V18, f19⟩)
def Q82 (Z : State) (b1 b2 : Int32) (h0 : Heap) (v : Option Value) (h : Heap) (vm : Vm) : Prop := ∃ (xa1 : Addr) (xk1 : ClassId), v = some (.ref xa1) ∧ av0 Z h xa1 xk1 5 [.int 47, .int (b1.toInt8.toInt32), .int (b2.toInt8.toInt32), .int 47, .int 42] ∧ ex0 Z h xa1 ∧ Safe Z EL0 vm h xa1 ∧ h0.size ≤ xa1 ∧ h.size > xa1
theorem rm_au162 (G : GL l Z a0 zc fmt kpp) (F0 : av1 Z h0 pa1 pk1 5 [.int 47, .int pi1, .int pi2, .int 47, .int 42]) (rg_pi1 : ¬ pi1 < 0 ∧ ¬ (255 : Int32) < pi1) (rg_pi2 : ¬ pi2 < 0 ∧ ¬ (255 : Int32) < pi2) : M5 l Z 1 1 5 18 #[.ref pa1, i0, .int 5] h0 n0 [] [] (Q82 Z pi1 pi2 h0) := by
  refine mi B5 ef5 (hEW G) fun s X0 hsf0 n0le => ?_
  have l1 := F0.l
  refine oI 1 X0 d5_0 rfl rfl <| nP (aty := .byte) 3 5 X0 (w16 G) d5_1 rfl (by decide) had_byte ?_
  intro _ h1 b1 k1 X1 _ l1 E1 V1 A1 _ S1
  have V2 : av0 Z h1 b1 k1 5 [i0, i0, i0, i0, i0] := V1.pad (pad_rep [] (.int (0 : Int32)) 5)
  refine oV 4 (l' := #[rr pa1, ii 0, ii 5, rr b1, uu, uu]) X1 d5_3 rfl rfl rfl <| oA 5 X1 d5_4 rfl rfl <| oI 6 X1 d5_5 rfl rfl <| oA 7 X1 d5_6 rfl rfl <| oc 8 (v := 0) X1 d5_7 rfl (by decide) <| oI 9 X1 d5_8 rfl rfl ?_
  have f3 := F0.ext E1
  refine mS 12 0 X1 (rm_au161 G f3 V2 A1 rg_pi1 rg_pi2 (by omega)) (u2 G) (sS (by omega) S1 all0) d5_9 rfl rfl rfl lr (by decide) (aR (by omega) all0) ?_
  rintro _ _ _ _ X4 ⟨rfl, q5, q6⟩ _ _ C4
  refine oS 14 (l' := #[rr pa1, ii 0, ii 5, rr b1, ii 5, uu]) X4 d5_12 rfl rfl <| oi 16 X4 d5_14 rfl rfl <| oI 17 X4 d5_16 rfl rfl <| oY 57 X4 d5_17 (by decide) (teq (by decide)).1 <| oA 58 X4 d5_57 rfl rfl ?_
  have f7 := C4.safe (own_lt (by omega)) S1
  exact oR X4 d5_58 rfl rfl rfl (by decide) (by decide) (fun _ CC => ⟨b1, k1, rfl, q5, q6, (CC.safe (own_lt (by omega)) f7), by omega⟩)
theorem rm_au163 (G : GL l Z a0 zc fmt kpp) (F0 : av0 Z h0 pa1 pk1 5 ps_pa1) : M7 l Z 0 0 0 0 #[.ref pa1, .int 5] h0 n0 [] [] (Q5 Z  h0) := by
  refine mi B7 ef1 (hEW G) fun s X0 hsf0 n0le => ?_
  have := F0.l
  refine oI 1 X0 d7_0 rfl rfl <| oA 2 X0 d7_1 rfl rfl <| oL 3 X0 F0 d7_2 rfl <| o_isub 4 (v := 0) X0 d7_3 rfl (by decide) <| ob 6 (v := 31) X0 d7_4 rfl (by decide) <| o_iushr 7 (v := 0) X0 d7_6 rfl (by decide) <| o_i2b 8 (v := 0) X0 d7_7 rfl (by decide) ?_
  exact o_nret (y := (0 : Int32)) (t := .byte) X0 d7_8 rfl (by decide) (by simp) (by decide) (by decide) (fun _ CC => rfl)
def Q83 (Z : State) (b1 : Addr) (b2 b3 : Int32) (h0 : Heap) (v : Option Value) (h : Heap) (vm : Vm) : Prop := ∃ (xa1 : Addr) (xk1 : ClassId), v = none ∧ ex1 Z h b1 ∧ fd1 Z h b1 (.int 0) ∧ fd0 Z h b1 (.ref xa1) ∧ av0 Z h xa1 xk1 5 [.int 47, .int (b2.toInt8.toInt32), .int (b3.toInt8.toInt32), .int 47, .int 42] ∧ ex0 Z h xa1 ∧ Safe Z EL0 vm h xa1 ∧ h0.size ≤ xa1 ∧ h.size > xa1
theorem rm_au164 (G : GL l Z a0 zc fmt kpp) (F0 : ex1 Z h0 pa1) (F1 : fd1 Z h0 pa1 (.int 0)) (F2 : fd0 Z h0 pa1 .null) (F3 : av1 Z h0 pa2 pk1 5 [.int 47, .int pi1, .int pi2, .int 47, .int 42]) (rg_pi1 : ¬ pi1 < 0 ∧ ¬ (255 : Int32) < pi1) (rg_pi2 : ¬ pi2 < 0 ∧ ¬ (255 : Int32) < pi2) (ne : NE pa1 pa2 ∧ n0 ≤ pa1) : M4 l Z 2 1 5 35 #[.ref pa1, .ref pa2, i0, .int 5, .null] h0 n0 [pa1] [pa1] (Q83 Z pa1 pi1 pi2 h0) := by
  refine mi B4 ef4 (hEW G) fun s X0 hsf0 n0le => ?_
  have := F0.l
  have := F3.l
  have sf_pa1 := hsf0 pa1 (by simp)
  refine oA 1 X0 d4_0 rfl rfl <| o_initO 4 (W := 0) X0 (w12 G) (w13 G) (w14 G) rfl (by decide) (Nat.le_of_eq rfl) (by decide) d4_1 rfl ?_
  intro _ X2
  refine oI 5 X2 d4_4 rfl rfl <| oy 27 X2 d4_5 (by decide) ((if0 _ _).trans (feq (by decide)).2) <| oG 30 X2 (w23 G) Via.refl ((sg5 G).ext X2.old.2) d4_27 rfl ?_
  intro _ X4
  refine on 33 X4 d4_30 rfl ((if0 _ _).trans (feq (hzc G)).1) <| oA 34 X4 d4_33 rfl rfl <| oI 35 X4 d4_34 rfl rfl <| oI 36 X4 d4_35 rfl rfl <| mS 39 0 X4 (rm_au162 G F3 rg_pi1 rg_pi2) (u3 G) all0 d4_36 rfl rfl rfl lr (by decide) all0 ?_
  rintro _ _ _ _ X5 ⟨xa1_6, xk1_7, rfl, q8, q9, q10, _⟩ K5 _ C5
  refine oU 41 (l' := #[rr pa1, rr pa2, ii 0, ii 5, .val .null, rr xa1_6]) X5 d4_39 rfl rfl rfl <| oA 42 X5 d4_41 rfl rfl <| oa 44 X5 d4_42 rfl rfl <| oI 45 X5 d4_44 rfl rfl <| mS 48 1 X5 (rm_au163 G q8) (u4 G) all0 d4_45 rfl rfl rfl lr (by decide) all0 ?_
  rintro _ _ _ _ X12 rfl K12 _ C12
  have f13 := (F1.k0 K5).k0 K12
  have f14 := (F0.keep K5).keep K12
  have f16 := C12.safe (own_lt (by omega)) (C5.safe (own_lt (by omega)) sf_pa1)
  refine oP 51 (v' := (.int 0)) X12 (w22 G) Via.refl f13 f14 (Or.inr ⟨(w18 G), rfl, rfl⟩) (w2 G) fd_1 rfl rfl d4_48 rfl (by omega) (Or.inl (by simp)) f16 ?_
  intro _ _ X15 W15 C15
  have := W15.size
  have f17 := f13.same W15
  refine oA 52 X15 d4_51 rfl rfl <| oa 54 X15 d4_52 rfl rfl ?_
  have f18 := ((F2.k0 K5).k0 K12).other W15 (Or.inr (sn1 G))
  have f19 := f14.wr W15
  have f21 := C15.safe (own_lt (by omega)) f16
  refine oP 57 (v' := (.ref xa1_6)) X15 (w21 G) Via.refl f18 f19 (Or.inr ⟨(w17 G), rfl, rfl⟩) (w2 G) fd_0 rfl rfl d4_54 rfl (by omega) (Or.inl (by simp)) f21 ?_
  intro _ _ X20 W20 C20
  have := W20.size
  have f22 := f18.same W20
  have f23 := f19.wr W20
  have f24 := f17.other W20 (Or.inr (sn0 G))
  have f25 := ((q8.k0 K12).oth W15 (by omega)).oth W20 (by omega)
  have f26 := ((q9.keep K12).wr W15).wr W20
  have f27 := C20.safe (own_lt (by omega)) (C15.safe (own_lt (by omega)) (C12.safe (own_lt (by omega)) q10))
  exact oz X20 d4_57 rfl (by decide) (by decide) (fun _ CC => ⟨xa1_6, xk1_7, rfl, f23, f24, f22, f25, f26, (CC.safe (own_lt (by omega)) f27), by omega⟩)
theorem rm_au165 (G : GL l Z a0 zc fmt kpp) (F0 : ex1 Z h0 pa1) (F1 : fd1 Z h0 pa1 (.int 0)) (F2 : fd0 Z h0 pa1 .null) (F3 : av1 Z h0 pa2 pk1 5 [.int 47, .int pi1, .int pi2, .int 47, .int 42]) (rg_pi1 : ¬ pi1 < 0 ∧ ¬ (255 : Int32) < pi1) (rg_pi2 : ¬ pi2 < 0 ∧ ¬ (255 : Int32) < pi2) (ne : NE pa1 pa2 ∧ n0 ≤ pa1) : M3 l Z 3 1 5 52 #[.ref pa1, .ref pa2] h0 n0 [pa1] [pa1] (Q83 Z pa1 pi1 pi2 h0) := by
  refine mi B3 ef3 (hEW G) fun s X0 hsf0 n0le => ?_
  have := F0.l
  have := F3.l
  have sf_pa1 := hsf0 pa1 (by simp)
  refine oA 1 X0 d3_0 rfl rfl <| oA 2 X0 d3_1 rfl rfl <| oc 3 (v := 0) X0 d3_2 rfl (by decide) <| oA 4 X0 d3_3 rfl rfl <| oL 5 X0 F3 d3_4 rfl <| o_aconstNull 6 X0 d3_5 rfl <| mP 9 0 X0 (rm_au164 G F0 F1 F2 F3 rg_pi1 rg_pi2 (by omega)) (u0 G) (sS (by omega) sf_pa1 all0) d3_6 rfl rfl rfl lr (by decide) (aI (by omega) (by simp) all0) ?_
  rintro _ _ _ _ X1 ⟨xa1_2, xk1_3, rfl, q4, q5, q6, q7, q8, q9, _⟩ _ _ _
  exact oz X1 d3_9 rfl (by decide) (by decide) (fun _ CC => ⟨xa1_2, xk1_3, rfl, q4, q5, q6, q7, q8, (CC.safe (own_lt (by omega)) q9), by omega⟩)
theorem rm_au166 (G : GL l Z a0 zc fmt kpp) (F0 : ex1 Z h0 pa1) (F1 : fd1 Z h0 pa1 (.int 0)) (F2 : fd0 Z h0 pa1 (.ref pa2)) (F3 : av0 Z h0 pa2 pk1 3 ps_pa2) : M13 l Z 1 0 0 13 #[.ref pa1] h0 n0 [] [] (Q66 Z  h0) := by
  refine mi B13 ef7 (hEW G) fun s X0 hsf0 n0le => ?_
  have := F0.l
  have := F3.l
  refine oA 1 X0 d13_0 rfl rfl <| oF 4 X0 (w21 G) Via.refl F2 d13_1 rfl ?_
  intro _ X2
  refine oL 5 X2 F3 d13_4 rfl <| oA 6 X2 d13_5 rfl rfl <| mV 9 1 X2 F0 (rm_au9 G F1) (u7 G) all0 d13_6 rfl rfl rfl lr (by decide) all0 ?_
  rintro _ _ _ _ X3 rfl _ _ _
  refine o_ishr 10 (v := 3) X3 d13_9 rfl (by decide) ?_
  exact o_iret X3 d13_10 rfl (by decide) (by decide) (fun _ CC => rfl)
def Q84 (Z : State) (b1 : Addr) (b2 : ClassId) (b3 b4 b5 : Int32) (h0 : Heap) (v : Option Value) (h : Heap) (vm : Vm) : Prop := v = none ∧ av0 Z h b1 b2 16 [.int b3, .int b4, .int b5, i0, i0, i0, i0, i0, i0, i0, i0, i0, i0, i0, i0, i0] ∧ ex0 Z h b1
theorem rm_au167 (G : GL l Z a0 zc fmt kpp) (F0 : ex1 Z h0 pa1) (F1 : fd1 Z h0 pa1 (.int 0)) (F2 : fd0 Z h0 pa1 (.ref pa3)) (F3 : av0 Z h0 pa2 pk1 16 [i0, i0, i0, i0, i0, i0, i0, i0, i0, i0, i0, i0, i0, i0, i0, i0]) (F4 : ex0 Z h0 pa2) (F5 : av0 Z h0 pa3 pk2 3 [.int pi1, .int pi2, .int pi3]) (ne : NE pa1 pa2 ∧ NE pa2 pa3 ∧ n0 ≤ pa2) : M18 l Z 1 0 0 40 #[.ref pa1, .ref pa2, i0, i0] h0 n0 [pa2] [pa2] (Q84 Z pa2 pk1 pi1 pi2 pi3 h0) := by
  refine mi B18 ef11 (hEW G) fun s X0 hsf0 n0le => ?_
  have := F0.l
  have := F3.l
  have := F5.l
  have sf_pa2 := hsf0 pa2 (by simp)
  refine oA 1 X0 d18_0 rfl rfl <| mV 4 0 X0 F0 (rm_au9 G F1) (u7 G) all0 d18_1 rfl rfl rfl lr (by decide) all0 ?_
  rintro _ _ _ _ X1 rfl K1 _ C1
  refine oI 5 X1 d18_4 rfl rfl <| oN 8 X1 d18_5 rfl (teq (by decide)).2 <| oA 9 X1 d18_8 rfl rfl ?_
  have f2 := F2.k0 K1
  refine oF 12 X1 (w21 G) Via.refl f2 d18_9 rfl ?_
  intro _ X4
  refine oc 13 (v := 0) X4 d18_12 rfl (by decide) <| oA 14 X4 d18_13 rfl rfl <| oI 15 X4 d18_14 rfl rfl <| oI 16 X4 d18_15 rfl rfl <| o_ishl 17 (v := 0) X4 d18_16 rfl (by decide) <| oA 18 X4 d18_17 rfl rfl <| oF 21 X4 (w21 G) Via.refl f2 d18_18 rfl ?_
  intro _ X6
  have f7 := F5.k0 K1
  refine oL 22 X6 f7 d18_21 rfl ?_
  have f8 := F3.k0 K1
  have f9 := C1.safe (own_lt (by omega)) sf_pa2
  refine o_cp 25 (us := [.int pi1, .int pi2, .int pi3]) (vr := [.int pi1, .int pi2, .int pi3, i0, i0, i0, i0, i0, i0, i0, i0, i0, i0, i0, i0, i0]) (W := 0) X6 (w101 G) (w104 G) (w102 G) (w103 G) f7 f8 (Or.inl ⟨rfl, rfl⟩) (by decide) (by decide) (by decide) (by decide) (by decide) rfl (Nat.le_of_ble_eq_true rfl) rfl d18_22 rfl rfl (by decide) (Nat.le_of_eq rfl) (by decide) (by omega) (Or.inl (by simp)) f9 ?_
  intro _ _ X10 K10 _ V10
  have := K10.1
  refine og 43 X10 d18_25 (by decide) ?_
  have f11 := (F4.keep K1).keep K10
  exact oz X10 d18_43 rfl (by decide) (by decide) (fun _ CC => ⟨rfl, V10, f11⟩)
theorem rm_au168 (G : GL l Z a0 zc fmt kpp) (F0 : ex3 Z h0 pa1) (F1 : fd6 Z h0 pa1 (.int 0)) (F2 : fd5 Z h0 pa1 (.ref pa3)) (F3 : ex1 Z h0 pa2) (F4 : fd1 Z h0 pa2 (.int 0)) (F5 : fd0 Z h0 pa2 (.ref pa4)) (F6 : av0 Z h0 pa3 pk1 16 [i0, i0, i0, i0, i0, i0, i0, i0, i0, i0, i0, i0, i0, i0, i0, i0]) (F7 : ex0 Z h0 pa3) (F8 : av0 Z h0 pa4 pk2 3 [.int pi1, .int pi2, .int pi3]) (ne : NE pa1 pa3 ∧ NE pa2 pa3 ∧ NE pa3 pa4 ∧ n0 ≤ pa3) : M16 l Z 2 0 0 55 #[.ref pa1, i0, .ref pa2] h0 n0 [pa3] [pa3] (Q84 Z pa3 pk1 pi1 pi2 pi3 h0) := by
  refine mi B16 ef10 (hEW G) fun s X0 hsf0 n0le => ?_
  have := F0.l
  have := F3.l
  have := F6.l
  have := F8.l
  have sf_pa3 := hsf0 pa3 (by simp)
  refine oA 1 X0 d16_0 rfl rfl <| oA 2 X0 d16_1 rfl rfl <| mV 5 0 X0 F0 (rm_au12 G F1 F3 F4) (u11 G) all0 d16_2 rfl rfl rfl lr (by decide) all0 ?_
  rintro _ _ _ _ X1 rfl K1 _ C1
  refine oA 6 X1 d16_5 rfl rfl <| oA 7 X1 d16_6 rfl rfl ?_
  have f2 := F2.k0 K1
  refine oF 10 X1 (w54 G) Via.refl f2 d16_7 rfl ?_
  intro _ X4
  refine oI 11 X4 d16_10 rfl rfl <| oA 12 X4 d16_11 rfl rfl ?_
  have f5 := F1.k0 K1
  refine oF 15 X4 (w56 G) Via.refl f5 d16_12 rfl ?_
  intro _ X7
  have f8 := F3.keep K1
  have f9 := F4.k0 K1
  have f10 := F5.k0 K1
  have f11 := F6.k0 K1
  have f12 := F7.keep K1
  have f13 := F8.k0 K1
  have f14 := C1.safe (own_lt (by omega)) sf_pa3
  refine mV 18 0 X7 f8 (rm_au167 G f8 f9 f10 f11 f12 f13 (by omega)) (u12 G) (sS (by omega) f14 all0) d16_15 rfl rfl rfl lr (by decide) (aI (by omega) (by simp) all0) ?_
  rintro _ _ _ _ X15 ⟨rfl, q16, q17⟩ _ _ _
  exact oz X15 d16_18 rfl (by decide) (by decide) (fun _ CC => ⟨rfl, q16, q17⟩)
def Q85 (Z : State) (b1 b2 : Addr) (b3 : ClassId) (b4 b5 b6 : Int32) (h0 : Heap) (v : Option Value) (h : Heap) (vm : Vm) : Prop := v = some (.ref b1) ∧ ex3 Z h b1 ∧ fd6 Z h b1 (.int 0) ∧ fd7 Z h b1 (.int 3) ∧ fd8 Z h b1 (.int 0) ∧ fd5 Z h b1 (.ref b2) ∧ av0 Z h b2 b3 16 [.int b4, .int b5, .int b6, i0, i0, i0, i0, i0, i0, i0, i0, i0, i0, i0, i0, i0] ∧ ex0 Z h b2
theorem rm_au169 (G : GL l Z a0 zc fmt kpp) (F0 : ex3 Z h0 pa1) (F1 : fd6 Z h0 pa1 (.int 0)) (F2 : fd7 Z h0 pa1 (.int 0)) (F3 : fd8 Z h0 pa1 (.int 0)) (F4 : fd5 Z h0 pa1 (.ref pa3)) (F5 : ex1 Z h0 pa2) (F6 : fd1 Z h0 pa2 (.int 0)) (F7 : fd0 Z h0 pa2 (.ref pa4)) (F8 : av0 Z h0 pa3 pk1 16 [i0, i0, i0, i0, i0, i0, i0, i0, i0, i0, i0, i0, i0, i0, i0, i0]) (F9 : ex0 Z h0 pa3) (F10 : av0 Z h0 pa4 pk2 3 [.int pi1, .int pi2, .int pi3]) (ne : NE pa1 pa2 ∧ NE pa1 pa3 ∧ NE pa1 pa4 ∧ NE pa2 pa3 ∧ NE pa3 pa4 ∧ n0 ≤ pa1 ∧ n0 ≤ pa3) : M12 l Z 3 0 0 69 #[.ref pa1, .ref pa2] h0 n0 [pa1, pa3] [pa3] (Q85 Z pa1 pa3 pk1 pi1 pi2 pi3 h0) := by
  refine mi B12 ef8 (hEW G) fun s X0 hsf0 n0le => ?_
  have := F0.l
  have := F5.l
  have := F8.l
  have := F10.l
  have sf_pa3 := hsf0 pa3 (by simp)
  refine oA 1 X0 d12_0 rfl rfl <| ifnonnullYesJ 9 X0 d12_1 (by decide) <| oA 10 X0 d12_9 rfl rfl <| mV 13 0 X0 F5 (rm_au166 G F5 F6 F7 F10) (u8 G) all0 d12_10 rfl rfl rfl lr (by decide) all0 ?_
  rintro _ _ _ _ X1 rfl K1 _ C1
  refine oT 14 (l' := #[rr pa1, rr pa2, ii 3]) X1 d12_13 rfl rfl <| oA 15 X1 d12_14 rfl rfl <| oA 16 X1 d12_15 rfl rfl ?_
  have f2 := F2.k0 K1
  refine oF 19 X1 (w78 G) Via.refl f2 d12_16 rfl ?_
  intro _ X4
  refine oI 20 X4 d12_19 rfl rfl <| o_iadd 21 (v := 3) X4 d12_20 rfl (by decide) ?_
  have f5 := F1.k0 K1
  have f6 := F4.k0 K1
  have f7 := F8.k0 K1
  have f8 := F0.keep K1
  refine mV 24 0 X4 f8 (rm_au11 G f5 f6 f7 (by decide)) (u9 G) all0 d12_21 rfl rfl rfl lr (by decide) all0 ?_
  rintro _ _ _ _ X9 rfl K9 _ C9
  refine oA 25 X9 d12_24 rfl rfl <| oA 26 X9 d12_25 rfl rfl ?_
  have f10 := f2.k0 K9
  refine oF 29 X9 (w78 G) Via.refl f10 d12_26 rfl ?_
  intro _ X12
  refine oA 30 X12 d12_29 rfl rfl ?_
  have f13 := f8.keep K9
  have f14 := f5.k0 K9
  have f15 := f6.k0 K9
  have f16 := (F5.keep K1).keep K9
  have f17 := (F6.k0 K1).k0 K9
  have f18 := (F7.k0 K1).k0 K9
  have f19 := f7.k0 K9
  have f20 := (F9.keep K1).keep K9
  have f21 := (F10.k0 K1).k0 K9
  have f22 := C9.safe (own_lt (by omega)) (C1.safe (own_lt (by omega)) sf_pa3)
  refine mV 33 0 X12 f13 (rm_au168 G f13 f14 f15 f16 f17 f18 f19 f20 f21 (by omega)) (u13 G) (sS (by omega) f22 all0) d12_30 rfl rfl rfl lr (by decide) (aI (by omega) (by simp) all0) ?_
  rintro _ _ _ _ X23 ⟨rfl, q24, q25⟩ K23 _ _
  refine oA 34 X23 d12_33 rfl rfl <| oD 35 X23 d12_34 rfl rfl ?_
  have f26 := f10.k1 K23 (by omega)
  refine oF 38 X23 (w78 G) Via.refl f26 d12_35 rfl ?_
  intro _ X28
  refine oI 39 X28 d12_38 rfl rfl <| o_iadd 40 (v := 3) X28 d12_39 rfl (by decide) ?_
  have f29 := f13.keep K23
  refine oP 43 (v' := (.int 3)) X28 (w78 G) Via.refl f26 f29 (Or.inl (w79 G)) (w41 G) fd_4 rfl rfl d12_40 rfl (by omega) (Or.inl (by simp)) (sx X28 f29 nc1) ?_
  intro _ _ X30 W30 _
  have := W30.size
  have f31 := f26.same W30
  refine oA 44 X30 d12_43 rfl rfl ?_
  have f32 := f29.wr W30
  have f33 := (f14.k1 K23 (by omega)).other W30 (Or.inr (sn8 G))
  have f34 := (((F3.k0 K1).k0 K9).k1 K23 (by omega)).other W30 (Or.inr (sn9 G))
  have f35 := (f15.k1 K23 (by omega)).other W30 (Or.inr (sn10 G))
  have f36 := q24.oth W30 (by omega)
  have f37 := q25.wr W30
  exact oR X30 d12_44 rfl rfl rfl (by decide) (by decide) (fun _ CC => ⟨rfl, f32, f33, f31, f34, f35, f36, f37⟩)
theorem rm_au170 (G : GL l Z a0 zc fmt kpp) (F0 : ex3 Z h0 pa1) (F1 : fd6 Z h0 pa1 (.int 0)) (F2 : fd7 Z h0 pa1 (.int 0)) (F3 : fd8 Z h0 pa1 (.int 0)) (F4 : fd5 Z h0 pa1 (.ref pa3)) (F5 : ex1 Z h0 pa2) (F6 : fd1 Z h0 pa2 (.int 0)) (F7 : fd0 Z h0 pa2 (.ref pa4)) (F8 : av0 Z h0 pa3 pk1 16 [i0, i0, i0, i0, i0, i0, i0, i0, i0, i0, i0, i0, i0, i0, i0, i0]) (F9 : ex0 Z h0 pa3) (F10 : av0 Z h0 pa4 pk2 3 [.int pi1, .int pi2, .int pi3]) (ne : NE pa1 pa2 ∧ NE pa1 pa3 ∧ NE pa1 pa4 ∧ NE pa2 pa3 ∧ NE pa3 pa4 ∧ n0 ≤ pa1 ∧ n0 ≤ pa3) : M11 l Z 4 0 0 83 #[.ref pa1, .ref pa2] h0 n0 [pa1, pa3] [pa3] (Q85 Z pa1 pa3 pk1 pi1 pi2 pi3 h0) := by
  refine mi B11 ef3 (hEW G) fun s X0 hsf0 n0le => ?_
  have := F0.l
  have := F5.l
  have := F8.l
  have := F10.l
  have sf_pa3 := hsf0 pa3 (by simp)
  refine oA 1 X0 d11_0 rfl rfl <| oA 2 X0 d11_1 rfl rfl <| mU 5 0 X0 F0 (rm_au169 G F0 F1 F2 F3 F4 F5 F6 F7 F8 F9 F10 (by omega)) (u14 G) (sS (by omega) sf_pa3 all0) d11_2 rfl rfl rfl lr (by decide) (aI (by omega) (by simp) (aI (by omega) (by simp) all0)) ?_
  rintro _ _ _ _ X1 ⟨rfl, q2, q3, q4, q5, q6, q7, q8⟩ _ _ _
  refine o_pop 6 X1 d11_5 rfl rfl <| oA 7 X1 d11_6 rfl rfl ?_
  exact oR X1 d11_7 rfl rfl rfl (by decide) (by decide) (fun _ CC => ⟨rfl, q2, q3, q4, q5, q6, q7, q8⟩)
def Q86 (Z : State) (b1 : Addr) (b2 : ClassId) (b3 b4 b5 b6 b7 : Int32) (h0 : Heap) (v : Option Value) (h : Heap) (vm : Vm) : Prop := v = none ∧ av0 Z h b1 b2 16 [.int b3, .int b4, .int b5, .int b6, .int b7, i0, i0, i0, i0, i0, i0, i0, i0, i0, i0, i0] ∧ ex0 Z h b1
theorem rm_au171 (G : GL l Z a0 zc fmt kpp) (F0 : ex1 Z h0 pa1) (F1 : fd1 Z h0 pa1 (.int 0)) (F2 : fd0 Z h0 pa1 (.ref pa3)) (F3 : av0 Z h0 pa2 pk1 16 [.int pi1, .int pi2, .int pi3, i0, i0, i0, i0, i0, i0, i0, i0, i0, i0, i0, i0, i0]) (F4 : ex0 Z h0 pa2) (F5 : av0 Z h0 pa3 pk2 2 [.int pi4, .int pi5]) (ne : NE pa1 pa2 ∧ NE pa2 pa3 ∧ n0 ≤ pa2) : M18 l Z 1 0 0 40 #[.ref pa1, .ref pa2, .int 3, i0] h0 n0 [pa2] [pa2] (Q86 Z pa2 pk1 pi1 pi2 pi3 pi4 pi5 h0) := by
  refine mi B18 ef11 (hEW G) fun s X0 hsf0 n0le => ?_
  have := F0.l
  have := F3.l
  have := F5.l
  have sf_pa2 := hsf0 pa2 (by simp)
  refine oA 1 X0 d18_0 rfl rfl <| mV 4 0 X0 F0 (rm_au9 G F1) (u7 G) all0 d18_1 rfl rfl rfl lr (by decide) all0 ?_
  rintro _ _ _ _ X1 rfl K1 _ C1
  refine oI 5 X1 d18_4 rfl rfl <| oN 8 X1 d18_5 rfl (teq (by decide)).2 <| oA 9 X1 d18_8 rfl rfl ?_
  have f2 := F2.k0 K1
  refine oF 12 X1 (w21 G) Via.refl f2 d18_9 rfl ?_
  intro _ X4
  refine oc 13 (v := 0) X4 d18_12 rfl (by decide) <| oA 14 X4 d18_13 rfl rfl <| oI 15 X4 d18_14 rfl rfl <| oI 16 X4 d18_15 rfl rfl <| o_ishl 17 (v := 3) X4 d18_16 rfl (by decide) <| oA 18 X4 d18_17 rfl rfl <| oF 21 X4 (w21 G) Via.refl f2 d18_18 rfl ?_
  intro _ X6
  have f7 := F5.k0 K1
  refine oL 22 X6 f7 d18_21 rfl ?_
  have f8 := F3.k0 K1
  have f9 := C1.safe (own_lt (by omega)) sf_pa2
  refine o_cp 25 (us := [.int pi4, .int pi5]) (vr := [.int pi1, .int pi2, .int pi3, .int pi4, .int pi5, i0, i0, i0, i0, i0, i0, i0, i0, i0, i0, i0]) (W := 0) X6 (w101 G) (w104 G) (w102 G) (w103 G) f7 f8 (Or.inl ⟨rfl, rfl⟩) (by decide) (by decide) (by decide) (by decide) (by decide) rfl (Nat.le_of_ble_eq_true rfl) rfl d18_22 rfl rfl (by decide) (Nat.le_of_eq rfl) (by decide) (by omega) (Or.inl (by simp)) f9 ?_
  intro _ _ X10 K10 _ V10
  have := K10.1
  refine og 43 X10 d18_25 (by decide) ?_
  have f11 := (F4.keep K1).keep K10
  exact oz X10 d18_43 rfl (by decide) (by decide) (fun _ CC => ⟨rfl, V10, f11⟩)
theorem rm_au172 (G : GL l Z a0 zc fmt kpp) (F0 : ex3 Z h0 pa1) (F1 : fd6 Z h0 pa1 (.int 0)) (F2 : fd5 Z h0 pa1 (.ref pa3)) (F3 : ex1 Z h0 pa2) (F4 : fd1 Z h0 pa2 (.int 0)) (F5 : fd0 Z h0 pa2 (.ref pa4)) (F6 : av0 Z h0 pa3 pk1 16 [.int pi1, .int pi2, .int pi3, i0, i0, i0, i0, i0, i0, i0, i0, i0, i0, i0, i0, i0]) (F7 : ex0 Z h0 pa3) (F8 : av0 Z h0 pa4 pk2 2 [.int pi4, .int pi5]) (ne : NE pa1 pa3 ∧ NE pa2 pa3 ∧ NE pa3 pa4 ∧ n0 ≤ pa3) : M16 l Z 2 0 0 55 #[.ref pa1, .int 3, .ref pa2] h0 n0 [pa3] [pa3] (Q86 Z pa3 pk1 pi1 pi2 pi3 pi4 pi5 h0) := by
  refine mi B16 ef10 (hEW G) fun s X0 hsf0 n0le => ?_
  have := F0.l
  have := F3.l
  have := F6.l
  have := F8.l
  have sf_pa3 := hsf0 pa3 (by simp)
  refine oA 1 X0 d16_0 rfl rfl <| oA 2 X0 d16_1 rfl rfl <| mV 5 0 X0 F0 (rm_au12 G F1 F3 F4) (u11 G) all0 d16_2 rfl rfl rfl lr (by decide) all0 ?_
  rintro _ _ _ _ X1 rfl K1 _ C1
  refine oA 6 X1 d16_5 rfl rfl <| oA 7 X1 d16_6 rfl rfl ?_
  have f2 := F2.k0 K1
  refine oF 10 X1 (w54 G) Via.refl f2 d16_7 rfl ?_
  intro _ X4
  refine oI 11 X4 d16_10 rfl rfl <| oA 12 X4 d16_11 rfl rfl ?_
  have f5 := F1.k0 K1
  refine oF 15 X4 (w56 G) Via.refl f5 d16_12 rfl ?_
  intro _ X7
  have f8 := F3.keep K1
  have f9 := F4.k0 K1
  have f10 := F5.k0 K1
  have f11 := F6.k0 K1
  have f12 := F7.keep K1
  have f13 := F8.k0 K1
  have f14 := C1.safe (own_lt (by omega)) sf_pa3
  refine mV 18 0 X7 f8 (rm_au171 G f8 f9 f10 f11 f12 f13 (by omega)) (u12 G) (sS (by omega) f14 all0) d16_15 rfl rfl rfl lr (by decide) (aI (by omega) (by simp) all0) ?_
  rintro _ _ _ _ X15 ⟨rfl, q16, q17⟩ _ _ _
  exact oz X15 d16_18 rfl (by decide) (by decide) (fun _ CC => ⟨rfl, q16, q17⟩)
def Q87 (Z : State) (b1 b2 : Addr) (b3 : ClassId) (b4 b5 b6 b7 b8 : Int32) (h0 : Heap) (v : Option Value) (h : Heap) (vm : Vm) : Prop := v = some (.ref b1) ∧ ex3 Z h b1 ∧ fd6 Z h b1 (.int 0) ∧ fd7 Z h b1 (.int 5) ∧ fd8 Z h b1 (.int 0) ∧ fd5 Z h b1 (.ref b2) ∧ av0 Z h b2 b3 16 [.int b4, .int b5, .int b6, .int b7, .int b8, i0, i0, i0, i0, i0, i0, i0, i0, i0, i0, i0] ∧ ex0 Z h b2
theorem rm_au173 (G : GL l Z a0 zc fmt kpp) (F0 : ex3 Z h0 pa1) (F1 : fd6 Z h0 pa1 (.int 0)) (F2 : fd7 Z h0 pa1 (.int 3)) (F3 : fd8 Z h0 pa1 (.int 0)) (F4 : fd5 Z h0 pa1 (.ref pa3)) (F5 : ex1 Z h0 pa2) (F6 : fd1 Z h0 pa2 (.int 0)) (F7 : fd0 Z h0 pa2 (.ref pa4)) (F8 : av0 Z h0 pa3 pk1 16 [.int pi1, .int pi2, .int pi3, i0, i0, i0, i0, i0, i0, i0, i0, i0, i0, i0, i0, i0]) (F9 : ex0 Z h0 pa3) (F10 : av0 Z h0 pa4 pk2 2 [.int pi4, .int pi5]) (ne : NE pa1 pa2 ∧ NE pa1 pa3 ∧ NE pa1 pa4 ∧ NE pa2 pa3 ∧ NE pa3 pa4 ∧ n0 ≤ pa1 ∧ n0 ≤ pa3) : M12 l Z 3 0 0 69 #[.ref pa1, .ref pa2] h0 n0 [pa1, pa3] [pa3] (Q87 Z pa1 pa3 pk1 pi1 pi2 pi3 pi4 pi5 h0) := by
  refine mi B12 ef8 (hEW G) fun s X0 hsf0 n0le => ?_
  have := F0.l
  have := F5.l
  have := F8.l
  have := F10.l
  have sf_pa3 := hsf0 pa3 (by simp)
  refine oA 1 X0 d12_0 rfl rfl <| ifnonnullYesJ 9 X0 d12_1 (by decide) <| oA 10 X0 d12_9 rfl rfl <| mV 13 0 X0 F5 (rm_au17 G F5 F6 F7 F10) (u8 G) all0 d12_10 rfl rfl rfl lr (by decide) all0 ?_
  rintro _ _ _ _ X1 rfl K1 _ C1
  refine oT 14 (l' := #[rr pa1, rr pa2, ii 2]) X1 d12_13 rfl rfl <| oA 15 X1 d12_14 rfl rfl <| oA 16 X1 d12_15 rfl rfl ?_
  have f2 := F2.k0 K1
  refine oF 19 X1 (w78 G) Via.refl f2 d12_16 rfl ?_
  intro _ X4
  refine oI 20 X4 d12_19 rfl rfl <| o_iadd 21 (v := 5) X4 d12_20 rfl (by decide) ?_
  have f5 := F1.k0 K1
  have f6 := F4.k0 K1
  have f7 := F8.k0 K1
  have f8 := F0.keep K1
  refine mV 24 0 X4 f8 (rm_au11 G f5 f6 f7 (by decide)) (u9 G) all0 d12_21 rfl rfl rfl lr (by decide) all0 ?_
  rintro _ _ _ _ X9 rfl K9 _ C9
  refine oA 25 X9 d12_24 rfl rfl <| oA 26 X9 d12_25 rfl rfl ?_
  have f10 := f2.k0 K9
  refine oF 29 X9 (w78 G) Via.refl f10 d12_26 rfl ?_
  intro _ X12
  refine oA 30 X12 d12_29 rfl rfl ?_
  have f13 := f8.keep K9
  have f14 := f5.k0 K9
  have f15 := f6.k0 K9
  have f16 := (F5.keep K1).keep K9
  have f17 := (F6.k0 K1).k0 K9
  have f18 := (F7.k0 K1).k0 K9
  have f19 := f7.k0 K9
  have f20 := (F9.keep K1).keep K9
  have f21 := (F10.k0 K1).k0 K9
  have f22 := C9.safe (own_lt (by omega)) (C1.safe (own_lt (by omega)) sf_pa3)
  refine mV 33 0 X12 f13 (rm_au172 G f13 f14 f15 f16 f17 f18 f19 f20 f21 (by omega)) (u13 G) (sS (by omega) f22 all0) d12_30 rfl rfl rfl lr (by decide) (aI (by omega) (by simp) all0) ?_
  rintro _ _ _ _ X23 ⟨rfl, q24, q25⟩ K23 _ _
  refine oA 34 X23 d12_33 rfl rfl <| oD 35 X23 d12_34 rfl rfl ?_
  have f26 := f10.k1 K23 (by omega)
  refine oF 38 X23 (w78 G) Via.refl f26 d12_35 rfl ?_
  intro _ X28
  refine oI 39 X28 d12_38 rfl rfl <| o_iadd 40 (v := 5) X28 d12_39 rfl (by decide) ?_
  have f29 := f13.keep K23
  refine oP 43 (v' := (.int 5)) X28 (w78 G) Via.refl f26 f29 (Or.inl (w79 G)) (w41 G) fd_4 rfl rfl d12_40 rfl (by omega) (Or.inl (by simp)) (sx X28 f29 nc1) ?_
  intro _ _ X30 W30 _
  have := W30.size
  have f31 := f26.same W30
  refine oA 44 X30 d12_43 rfl rfl ?_
  have f32 := f29.wr W30
  have f33 := (f14.k1 K23 (by omega)).other W30 (Or.inr (sn8 G))
  have f34 := (((F3.k0 K1).k0 K9).k1 K23 (by omega)).other W30 (Or.inr (sn9 G))
  have f35 := (f15.k1 K23 (by omega)).other W30 (Or.inr (sn10 G))
  have f36 := q24.oth W30 (by omega)
  have f37 := q25.wr W30
  exact oR X30 d12_44 rfl rfl rfl (by decide) (by decide) (fun _ CC => ⟨rfl, f32, f33, f31, f34, f35, f36, f37⟩)
theorem rm_au174 (G : GL l Z a0 zc fmt kpp) (F0 : ex3 Z h0 pa1) (F1 : fd6 Z h0 pa1 (.int 0)) (F2 : fd7 Z h0 pa1 (.int 3)) (F3 : fd8 Z h0 pa1 (.int 0)) (F4 : fd5 Z h0 pa1 (.ref pa3)) (F5 : ex1 Z h0 pa2) (F6 : fd1 Z h0 pa2 (.int 0)) (F7 : fd0 Z h0 pa2 (.ref pa4)) (F8 : av0 Z h0 pa3 pk1 16 [.int pi1, .int pi2, .int pi3, i0, i0, i0, i0, i0, i0, i0, i0, i0, i0, i0, i0, i0]) (F9 : ex0 Z h0 pa3) (F10 : av0 Z h0 pa4 pk2 2 [.int pi101, .int pi102]) (ne : NE pa1 pa2 ∧ NE pa1 pa3 ∧ NE pa1 pa4 ∧ NE pa2 pa3 ∧ NE pa3 pa4 ∧ n0 ≤ pa1 ∧ n0 ≤ pa3) : M11 l Z 4 0 0 83 #[.ref pa1, .ref pa2] h0 n0 [pa1, pa3] [pa3] (Q87 Z pa1 pa3 pk1 pi1 pi2 pi3 pi101 pi102 h0) := by
  refine mi B11 ef3 (hEW G) fun s X0 hsf0 n0le => ?_
  have := F0.l
  have := F5.l
  have := F8.l
  have := F10.l
  have sf_pa3 := hsf0 pa3 (by simp)
  refine oA 1 X0 d11_0 rfl rfl <| oA 2 X0 d11_1 rfl rfl <| mU 5 0 X0 F0 (rm_au173 G F0 F1 F2 F3 F4 F5 F6 F7 F8 F9 F10 (by omega)) (u14 G) (sS (by omega) sf_pa3 all0) d11_2 rfl rfl rfl lr (by decide) (aI (by omega) (by simp) (aI (by omega) (by simp) all0)) ?_
  rintro _ _ _ _ X1 ⟨rfl, q2, q3, q4, q5, q6, q7, q8⟩ _ _ _
  refine o_pop 6 X1 d11_5 rfl rfl <| oA 7 X1 d11_6 rfl rfl ?_
  exact oR X1 d11_7 rfl rfl rfl (by decide) (by decide) (fun _ CC => ⟨rfl, q2, q3, q4, q5, q6, q7, q8⟩)
def Q88 (Z : State) (b1 b2 b3 : Int32) (h0 : Heap) (v : Option Value) (h : Heap) (vm : Vm) : Prop := ∃ (xa1 : Addr) (xk1 : ClassId), v = some (.ref xa1) ∧ av0 Z h xa1 xk1 5 [.int b1, .int b2, .int b3, .int 47, .int 42] ∧ ex0 Z h xa1 ∧ Safe Z EL0 vm h xa1 ∧ h0.size ≤ xa1 ∧ h.size > xa1
theorem rm_au175 (G : GL l Z a0 zc fmt kpp) (F0 : av0 Z h0 pa1 pk1 16 [.int pi1, .int pi2, .int pi3, .int 47, .int 42, i0, i0, i0, i0, i0, i0, i0, i0, i0, i0, i0]) : M27 l Z 1 1 5 40 #[.ref pa1, i0, .int 5] h0 n0 [] [] (Q88 Z pi1 pi2 pi3 h0) := by
  refine mi B27 ef13 (hEW G) fun s X0 hsf0 n0le => ?_
  have := F0.l
  refine oI 1 X0 d27_0 rfl rfl <| oI 2 X0 d27_1 rfl rfl <| mS 5 0 X0 (rm_au26 G (by decide)) (u20 G) all0 d27_2 rfl rfl rfl lr (by decide) all0 ?_
  rintro _ _ _ _ X1 rfl K1 _ _
  refine oI 6 X1 d27_5 rfl rfl <| oI 7 X1 d27_6 rfl rfl <| o_isub 8 (v := 5) X1 d27_7 rfl (by decide) <| oT 9 (l' := #[rr pa1, ii 0, ii 5, ii 5, uu]) X1 d27_8 rfl rfl <| oI 10 X1 d27_9 rfl rfl <| nP (aty := .byte) 12 5 X1 (w16 G) d27_10 rfl (by decide) had_byte ?_
  intro _ h2 b2 k2 X2 _ _ E2 V2 A2 _ S2
  have V3 : av0 Z h2 b2 k2 5 [i0, i0, i0, i0, i0] := V2.pad (pad_rep [] (.int (0 : Int32)) 5)
  refine oU 14 (l' := #[rr pa1, ii 0, ii 5, ii 5, rr b2]) X2 d27_12 rfl rfl rfl <| oA 15 X2 d27_14 rfl rfl <| oI 16 X2 d27_15 rfl rfl <| oa 18 X2 d27_16 rfl rfl <| oc 19 (v := 0) X2 d27_18 rfl (by decide) <| oA 20 X2 d27_19 rfl rfl ?_
  have f4 := (F0.k0 K1).ext E2
  refine oL 21 X2 f4 d27_20 rfl <| oI 22 X2 d27_21 rfl rfl <| o_isub 23 (v := 16) X2 d27_22 rfl (by decide) <| oI 24 X2 d27_23 rfl rfl <| mS 27 4 X2 (rm_au27 G (by decide)) (u21 G) all0 d27_24 rfl rfl rfl lr (by decide) all0 ?_
  rintro _ _ _ _ X5 rfl K5 _ C5
  have f6 := f4.k0 K5
  have f7 := V3.k0 K5
  have f8 := C5.safe (own_lt (by omega)) S2
  refine o_cp 30 (us := [.int pi1, .int pi2, .int pi3, .int 47, .int 42]) (vr := [.int pi1, .int pi2, .int pi3, .int 47, .int 42]) (W := 0) X5 (w150 G) (w104 G) (w102 G) (w103 G) f6 f7 (Or.inl ⟨rfl, rfl⟩) (by decide) (by decide) (by decide) (by decide) (by decide) rfl (Nat.le_of_ble_eq_true rfl) rfl d27_27 rfl rfl (by decide) (Nat.le_of_eq rfl) (by decide) (by omega) (Or.inr (by omega)) f8 ?_
  intro _ _ X9 K9 C9 V9
  have := K9.1
  refine oa 32 X9 d27_30 rfl rfl ?_
  have f10 := (A2.keep K5).keep K9
  have f11 := C9.safe (own_lt (by omega)) f8
  exact oR X9 d27_32 rfl rfl rfl (by decide) (by decide) (fun _ CC => ⟨b2, k2, rfl, V9, f10, (CC.safe (own_lt (by omega)) f11), by omega⟩)
theorem rm_au176 (G : GL l Z a0 zc fmt kpp) (F0 : av0 Z h0 pa1 pk1 16 [.int pi1, .int pi2, .int pi3, .int 47, .int 42, i0, i0, i0, i0, i0, i0, i0, i0, i0, i0, i0]) : M26 l Z 2 1 5 56 #[.ref pa1, i0, .int 5] h0 n0 [] [] (Q88 Z pi1 pi2 pi3 h0) := by
  refine mi B26 ef0 (hEW G) fun s X0 hsf0 n0le => ?_
  have := F0.l
  refine oI 1 X0 d26_0 rfl rfl <| on 4 X0 d26_1 rfl ((if0 _ _).trans (teq (by decide)).2) <| oI 5 X0 d26_4 rfl rfl <| oA 6 X0 d26_5 rfl rfl <| oL 7 X0 F0 d26_6 rfl <| oN 10 X0 d26_7 rfl (feq (by decide)).1 <| oA 11 X0 d26_10 rfl rfl <| oI 12 X0 d26_11 rfl rfl <| oI 13 X0 d26_12 rfl rfl <| mS 16 0 X0 (rm_au175 G F0) (u22 G) all0 d26_13 rfl rfl rfl lr (by decide) all0 ?_
  rintro _ _ _ _ X1 ⟨xa1_2, xk1_3, rfl, q4, q5, q6, _⟩ _ _ _
  exact oR X1 d26_16 rfl rfl rfl (by decide) (by decide) (fun _ CC => ⟨xa1_2, xk1_3, rfl, q4, q5, (CC.safe (own_lt (by omega)) q6), by omega⟩)
def Q89 (Z : State) (b1 : Addr) (b2 b3 b4 : Int32) (h0 : Heap) (v : Option Value) (h : Heap) (vm : Vm) : Prop := ∃ (xa1 : Addr) (xk1 : ClassId), v = none ∧ ex1 Z h b1 ∧ fd1 Z h b1 (.int 0) ∧ fd0 Z h b1 (.ref xa1) ∧ av0 Z h xa1 xk1 5 [.int b2, .int b3, .int b4, .int 47, .int 42] ∧ ex0 Z h xa1 ∧ Safe Z EL0 vm h xa1 ∧ h0.size ≤ xa1 ∧ h.size > xa1
theorem rm_au177 (G : GL l Z a0 zc fmt kpp) (F0 : ex1 Z h0 pa1) (F1 : fd1 Z h0 pa1 (.int 0)) (F2 : fd0 Z h0 pa1 .null) (F3 : ex3 Z h0 pa2) (F4 : fd6 Z h0 pa2 (.int 0)) (F5 : fd7 Z h0 pa2 (.int 5)) (F6 : fd5 Z h0 pa2 (.ref pa3)) (F7 : av0 Z h0 pa3 pk1 16 [.int pi1, .int pi2, .int pi3, .int 47, .int 42, i0, i0, i0, i0, i0, i0, i0, i0, i0, i0, i0]) (ne : NE pa1 pa2 ∧ NE pa1 pa3 ∧ n0 ≤ pa1) : M21 l Z 3 1 5 71 #[.ref pa1, .ref pa2, .null] h0 n0 [pa1] [pa1] (Q89 Z pa1 pi1 pi2 pi3 h0) := by
  refine mi B21 ef12 (hEW G) fun s X0 hsf0 n0le => ?_
  have := F0.l
  have := F3.l
  have := F7.l
  have sf_pa1 := hsf0 pa1 (by simp)
  refine oA 1 X0 d21_0 rfl rfl <| o_initO 4 (W := 0) X0 (w12 G) (w13 G) (w14 G) rfl (by decide) (Nat.le_of_eq rfl) (by decide) d21_1 rfl ?_
  intro _ X2
  refine oA 5 X2 d21_4 rfl rfl <| mV 8 0 X2 F3 (rm_au22 G F6) (u16 G) all0 d21_5 rfl rfl rfl lr (by decide) all0 ?_
  rintro _ _ _ _ X3 rfl K3 _ C3
  refine oV 9 (l' := #[rr pa1, rr pa2, .val .null, rr pa3, uu]) X3 d21_8 rfl rfl rfl <| oA 10 X3 d21_9 rfl rfl ?_
  have f4 := F3.keep K3
  have f5 := F5.k0 K3
  refine mV 13 0 X3 f4 (rm_au24 G f4 f5) (u18 G) all0 d21_10 rfl rfl rfl lr (by decide) all0 ?_
  rintro _ _ _ _ X6 rfl K6 _ C6
  refine oS 15 (l' := #[rr pa1, rr pa2, .val .null, rr pa3, ii 5]) X6 d21_13 rfl rfl <| oA 16 X6 d21_15 rfl rfl ?_
  have f7 := (F4.k0 K3).k0 K6
  have f8 := f4.keep K6
  refine mV 19 0 X6 f8 (rm_au25 G f7 (by decide)) (u19 G) all0 d21_16 rfl rfl rfl lr (by decide) all0 ?_
  rintro _ _ _ _ X9 rfl K9 _ C9
  refine on 22 X9 d21_19 rfl ((if0 _ _).trans (feq (by decide)).1) <| oA 23 X9 d21_22 rfl rfl <| oc 24 (v := 0) X9 d21_23 rfl (by decide) ?_
  have f10 := ((F1.k0 K3).k0 K6).k0 K9
  have f11 := ((F0.keep K3).keep K6).keep K9
  have f13 := C9.safe (own_lt (by omega)) (C6.safe (own_lt (by omega)) (C3.safe (own_lt (by omega)) sf_pa1))
  refine oP 27 (v' := (.int 0)) X9 (w22 G) Via.refl f10 f11 (Or.inr ⟨(w18 G), rfl, rfl⟩) (w2 G) fd_1 rfl rfl d21_24 rfl (by omega) (Or.inl (by simp)) f13 ?_
  intro _ _ X12 W12 C12
  have := W12.size
  have f14 := f10.same W12
  refine oA 28 X12 d21_27 rfl rfl <| oA 29 X12 d21_28 rfl rfl <| oc 30 (v := 0) X12 d21_29 rfl (by decide) <| oi 32 X12 d21_30 rfl rfl ?_
  have f15 := (((F7.k0 K3).k0 K6).k0 K9).oth W12 (by omega)
  refine mS 35 1 X12 (rm_au176 G f15) (u23 G) all0 d21_32 rfl rfl rfl lr (by decide) all0 ?_
  rintro _ _ _ _ X16 ⟨xa1_17, xk1_18, rfl, q19, q20, q21, _⟩ K16 _ C16
  have f23 := ((((F2.k0 K3).k0 K6).k0 K9).other W12 (Or.inr (sn1 G))).k0 K16
  have f24 := (f11.wr W12).keep K16
  have f26 := C16.safe (own_lt (by omega)) (C12.safe (own_lt (by omega)) f13)
  refine oP 38 (v' := (.ref xa1_17)) X16 (w21 G) Via.refl f23 f24 (Or.inr ⟨(w17 G), rfl, rfl⟩) (w2 G) fd_0 rfl rfl d21_35 rfl (by omega) (Or.inl (by simp)) f26 ?_
  intro _ _ X25 W25 C25
  have := W25.size
  have f27 := f23.same W25
  refine og 97 X25 d21_38 (by decide) ?_
  have f28 := f24.wr W25
  have f29 := (f14.k0 K16).other W25 (Or.inr (sn0 G))
  have f30 := q19.oth W25 (by omega)
  have f31 := q20.wr W25
  have f32 := C25.safe (own_lt (by omega)) q21
  exact oz X25 d21_97 rfl (by decide) (by decide) (fun _ CC => ⟨xa1_17, xk1_18, rfl, f28, f29, f27, f30, f31, (CC.safe (own_lt (by omega)) f32), by omega⟩)
theorem rm_au178 (G : GL l Z a0 zc fmt kpp) (F0 : ex1 Z h0 pa1) (F1 : fd1 Z h0 pa1 (.int 0)) (F2 : fd0 Z h0 pa1 .null) (F3 : ex3 Z h0 pa2) (F4 : fd6 Z h0 pa2 (.int 0)) (F5 : fd7 Z h0 pa2 (.int 5)) (F6 : fd5 Z h0 pa2 (.ref pa3)) (F7 : av0 Z h0 pa3 pk1 16 [.int pi1, .int pi2, .int pi3, .int 47, .int 42, i0, i0, i0, i0, i0, i0, i0, i0, i0, i0, i0]) (ne : NE pa1 pa2 ∧ NE pa1 pa3 ∧ n0 ≤ pa1) : M20 l Z 4 1 5 87 #[.ref pa1, .ref pa2] h0 n0 [pa1] [pa1] (Q89 Z pa1 pi1 pi2 pi3 h0) := by
  refine mi B20 ef3 (hEW G) fun s X0 hsf0 n0le => ?_
  have := F0.l
  have := F3.l
  have := F7.l
  have sf_pa1 := hsf0 pa1 (by simp)
  refine oA 1 X0 d20_0 rfl rfl <| oA 2 X0 d20_1 rfl rfl <| o_aconstNull 3 X0 d20_2 rfl <| mP 6 0 X0 (rm_au177 G F0 F1 F2 F3 F4 F5 F6 F7 (by omega)) (u24 G) (sS (by omega) sf_pa1 all0) d20_3 rfl rfl rfl lr (by decide) (aI (by omega) (by simp) all0) ?_
  rintro _ _ _ _ X1 ⟨xa1_2, xk1_3, rfl, q4, q5, q6, q7, q8, q9, _⟩ _ _ _
  exact oz X1 d20_6 rfl (by decide) (by decide) (fun _ CC => ⟨xa1_2, xk1_3, rfl, q4, q5, q6, q7, q8, (CC.safe (own_lt (by omega)) q9), by omega⟩)
def Q90 (Z : State) (b1 b2 b3 : Int32) (h0 : Heap) (v : Option Value) (h : Heap) (vm : Vm) : Prop := ∃ (xa1 : Addr) (xa2 : Addr) (xk1 : ClassId), v = some (.ref xa1) ∧ ex1 Z h xa1 ∧ fd1 Z h xa1 (.int 0) ∧ fd0 Z h xa1 (.ref xa2) ∧ Safe Z EL0 vm h xa1 ∧ av0 Z h xa2 xk1 5 [.int b1, .int b2, .int b3, .int 47, .int 42] ∧ ex0 Z h xa2 ∧ Safe Z EL0 vm h xa2 ∧ h0.size ≤ xa1 ∧ h.size > xa1 ∧ h0.size ≤ xa2 ∧ h.size > xa2 ∧ NE xa1 xa2
theorem rm_au179 (G : GL l Z a0 zc fmt kpp) (F0 : ex3 Z h0 pa1) (F1 : fd6 Z h0 pa1 (.int 0)) (F2 : fd7 Z h0 pa1 (.int 5)) (F3 : fd5 Z h0 pa1 (.ref pa2)) (F4 : av0 Z h0 pa2 pk1 16 [.int pi1, .int pi2, .int pi3, .int 47, .int 42, i0, i0, i0, i0, i0, i0, i0, i0, i0, i0, i0]) : M19 l Z 5 2 9 101 #[.ref pa1] h0 n0 [] [] (Q90 Z pi1 pi2 pi3 h0) := by
  refine mi B19 ef7 (hEW G) fun s X0 hsf0 n0le => ?_
  have l1 := F0.l
  have := F4.l
  refine o_new 3 X0 (w111 G) (w2 G) (w3 G) d19_0 rfl (by decide) (by decide) ?_
  intro _ h1 b1 X1 _ l1 E1 A1 D1 _ _ S1
  have f2 : fd0 Z h1 b1 .null := D1 (Or.inr (w17 G)) fd_0
  have f3 : fd1 Z h1 b1 (.int 0) := D1 (Or.inr (w18 G)) fd_1
  refine oD 4 X1 d19_3 rfl rfl <| oA 5 X1 d19_4 rfl rfl ?_
  have f4 := F0.ext E1
  have f5 := F1.ext E1
  have f6 := F2.ext E1
  have f7 := F3.ext E1
  have f8 := F4.ext E1
  refine mP 8 1 X1 (rm_au178 G A1 f3 f2 f4 f5 f6 f7 f8 (by omega)) (u25 G) (sS (by omega) S1 all0) d19_5 rfl rfl rfl lr (by decide) (aR (by omega) all0) ?_
  rintro _ _ _ _ X9 ⟨xa1_10, xk1_11, rfl, q12, q13, q14, q15, q16, q17, _⟩ _ _ C9
  have f19 := C9.safe (own_lt (by omega)) S1
  exact oR X9 d19_8 rfl rfl rfl (by decide) (by decide) (fun _ CC => ⟨b1, xa1_10, xk1_11, rfl, q12, q13, q14, (CC.safe (own_lt (by omega)) f19), q15, q16, (CC.safe (own_lt (by omega)) q17), by omega⟩)
def Q91 (Z : State) (b1 b2 : Addr) (b3 b4 b5 : Int32) (h0 : Heap) (v : Option Value) (h : Heap) (vm : Vm) : Prop := ∃ (xa1 : Addr) (xa2 : Addr) (xa3 : Addr) (xk1 : ClassId), v = some (.ref xa1) ∧ ex4 Z h xa1 ∧ fd3 Z h xa1 (.ref b1) ∧ fd2 Z h xa1 (.ref xa2) ∧ fd4 Z h xa1 (.ref b2) ∧ ex1 Z h xa2 ∧ fd1 Z h xa2 (.int 0) ∧ fd0 Z h xa2 (.ref xa3) ∧ Safe Z EL0 vm h xa2 ∧ av0 Z h xa3 xk1 5 [.int b3, .int b4, .int b5, .int 47, .int 42] ∧ ex0 Z h xa3 ∧ Safe Z EL0 vm h xa3 ∧ h0.size ≤ xa1 ∧ h.size > xa1 ∧ h0.size ≤ xa2 ∧ h.size > xa2 ∧ NE xa1 xa2 ∧ h0.size ≤ xa3 ∧ h.size > xa3 ∧ NE xa1 xa3 ∧ NE xa2 xa3
theorem rm_au180 (G : GL l Z a0 zc fmt kpp) (F0 : ex1 Z h0 pa1) (F1 : fd1 Z h0 pa1 (.int 0)) (F2 : fd0 Z h0 pa1 (.ref pa2)) (F3 : av0 Z h0 pa2 pk1 3 [.int pi100, .int pi1, .int pi2]) (F4 : ex0 Z h0 pa2) : M8 l Z 6 7 44 115 #[.ref pa1] h0 n0 [] [] (Q91 Z kpp pa1 pi100 pi1 pi2 h0) := by
  have hw := G.1
  refine mi B8 ef7 (hEW G) fun s X0 hsf0 n0le => ?_
  have l1 := F0.l
  have := F3.l
  refine o_new 3 X0 (w38 G) (w39 G) (w36 G) d8_0 rfl (by decide) (by decide) ?_
  intro _ h1 b1 X1 _ l1 E1 A1 D1 _ _ _
  have f2 : fd2 Z h1 b1 .null := D1 (Or.inr (w159 G)) fd_2
  have f3 : fd3 Z h1 b1 .null := D1 (Or.inr (w161 G)) fd_3
  have f4 : fd4 Z h1 b1 .null := D1 (Or.inr (w163 G)) fd_2
  refine oD 4 X1 d8_3 rfl rfl <| o_new 7 X1 (w40 G) (w41 G) (w42 G) d8_4 rfl (by decide) (by decide) ?_
  intro _ h5 b5 X5 _ _ E5 A5 D5 _ _ _
  have f6 : fd5 Z h5 b5 .null := D5 (Or.inl (w55 G)) fd_0
  have f7 : fd6 Z h5 b5 (.int 0) := D5 (Or.inl (w57 G)) fd_1
  have f8 : fd7 Z h5 b5 (.int 0) := D5 (Or.inl (w79 G)) fd_4
  have f9 : fd8 Z h5 b5 (.int 0) := D5 (Or.inl (w238 G)) fd_5
  refine oD 8 X5 d8_7 rfl rfl <| mP 11 3 X5 (rm_au8 G A5 f7 f8 f9 f6 (by omega)) (u6 G) all0 d8_8 rfl rfl rfl lr (by decide) (aR (by omega) all0) ?_
  rintro _ _ _ _ X10 ⟨xa1_11, _, rfl, q13, q14, q15, q16, q17, q18, q19, q20, _⟩ K10 _ _
  refine oA 12 X10 d8_11 rfl rfl ?_
  have f22 := ((F0.ext E1).ext E5).keep K10
  have f23 := ((F1.ext E1).ext E5).k1 K10 (by omega)
  have f24 := ((F2.ext E1).ext E5).k1 K10 (by omega)
  have f25 := ((F3.ext E1).ext E5).k1 K10 (by omega)
  refine mV 15 2 X10 q13 (rm_au170 G q13 q14 q15 q16 q17 f22 f23 f24 q18 q19 f25 (by omega)) (u15 G) (sS (by omega) q20 all0) d8_12 rfl rfl rfl lr (by decide) (aR (by omega) (aR (by omega) all0)) ?_
  rintro _ _ _ _ X26 ⟨rfl, q27, q28, q29, q30, q31, q32, q33⟩ K26 _ C26
  refine o_ldcC 17 (n := 8) (vs := own_bs ([47, 42] : List Int32)) (z := (2 : Int32)) X26 (w105 G) (hws_str hw) (by decide) ⟨by decide, rfl⟩ (by decide) (by decide) d8_15 rfl (by decide) (by decide) (by decide) (by decide) ?_
  intro a34 b34 kb34 _ h34 _ X34 E34 C34 Es34 Cs34 Vs34 As34 SF34
  have lta34 : h34.size > a34 := Es34.lt
  have ltb34 : h34.size > b34 := As34.lt
  have := E34.1
  have Bs34 : av0 Z h34 b34 kb34 2 [.int 47, .int 42] := As34
  have f36 := (((A1.ext E5).keep K10).keep K26).ext E34
  have := own_nes (SF34 b1 (sx X34 f36 nc2))
  have f38 := q27.ext E34
  have := own_nes (SF34 b5 (sx X34 f38 nc1))
  have f40 := C34.safe (own_lt (by omega)) (C26.safe (own_lt (by omega)) q20)
  have := own_nes (SF34 xa1_11 f40)
  have f41 := q28.ext E34
  have f42 := q29.ext E34
  have f43 := q30.ext E34
  have f44 := q31.ext E34
  have f45 := q32.ext E34
  have f46 := q33.ext E34
  refine mV 20 2 X34 f38 (rm_au174 G f38 f41 f42 f43 f44 Es34 Cs34 Vs34 f45 f46 Bs34 (by omega)) (u15 G) (sS (by omega) f40 all0) d8_17 rfl rfl rfl lr (by decide) (aR (by omega) (aR (by omega) all0)) ?_
  rintro _ _ _ _ X47 ⟨rfl, q48, q49, q50, _, q52, q53, _⟩ K47 _ _
  refine mV 23 2 X47 q48 (rm_au179 G q48 q49 q50 q52 q53) (u26 G) all0 d8_20 rfl rfl rfl lr (by decide) all0 ?_
  rintro _ _ _ _ X55 ⟨xa1_56, xa2_57, xk1_58, rfl, q59, q60, q61, q62, q63, q64, q65, _⟩ K55 _ _
  refine oG 26 X55 (w151 G) Via.refl ((sg1 G).ext X55.old.2) d8_23 rfl ?_
  intro _ X68
  refine oA 27 X68 d8_26 rfl rfl ?_
  have f69 := (f36.keep K47).keep K55
  have f70 := (((((f3.ext E5).k1 K10 (by omega)).k2 K26 (by omega)).ext E34).k2 K47 (by omega)).k0 K55
  have f71 := (((((f2.ext E5).k1 K10 (by omega)).k2 K26 (by omega)).ext E34).k2 K47 (by omega)).k0 K55
  have f72 := (((((f4.ext E5).k1 K10 (by omega)).k2 K26 (by omega)).ext E34).k2 K47 (by omega)).k0 K55
  refine mP 30 1 X68 (rm_au33 G f69 f70 f71 f72 (by omega)) (u27 G) all0 d8_27 rfl rfl rfl lr (by decide) (aR (by omega) all0) ?_
  rintro _ _ _ _ X73 ⟨rfl, q74, q75, q76, q77⟩ K73 _ C73
  have f78 := q59.keep K73
  have f79 := q60.k1 K73 (by omega)
  have f80 := q61.k1 K73 (by omega)
  have f81 := C73.safe (own_lt (by omega)) q62
  have f82 := q63.k1 K73 (by omega)
  have f83 := q64.keep K73
  have f84 := C73.safe (own_lt (by omega)) q65
  exact oR X73 d8_30 rfl rfl rfl (by decide) (by decide) (fun _ CC => ⟨b1, xa1_56, xa2_57, xk1_58, rfl, q74, q75, q76, q77, f78, f79, f80, (CC.safe (own_lt (by omega)) f81), f82, f83, (CC.safe (own_lt (by omega)) f84), by omega⟩)
theorem rm_au181 (G : GL l Z a0 zc fmt kpp) (F0 : av0 Z h0 pa1 pk1 5 [.int pi1, .int pi2, .int pi3, .int pi4, .int pi5]) (F1 : av0 Z h0 pa2 pk2 5 [.int pi6, .int pi2, .int pi3, .int pi7, .int pi8]) (pc_0 : pi1 = pi6) (pc_1 : pi4 = pi7) (pc_2 : pi5 = pi8) : M33 l Z 0 0 0 0 #[.ref pa1, .ref pa2] h0 n0 [] [] (Q16 Z  h0) := by
  refine mi B33 ef8 (hEW G) fun s X0 hsf0 n0le => ?_
  have := F0.l
  have := F1.l
  refine oA 1 X0 d33_0 rfl rfl <| oL 2 X0 F0 d33_1 rfl <| oA 3 X0 d33_2 rfl rfl <| oL 4 X0 F1 d33_3 rfl <| oN 7 X0 d33_4 rfl (teq (by decide)).2 <| oc 8 (v := 0) X0 d33_7 rfl (by decide) <| oT 9 (l' := #[rr pa1, rr pa2, ii 0]) X0 d33_8 rfl rfl <| oI 10 X0 d33_9 rfl rfl <| oA 11 X0 d33_10 rfl rfl <| oL 12 X0 F0 d33_11 rfl <| oN 15 X0 d33_12 rfl (tlt (by decide)).2.1 <| oA 16 X0 d33_15 rfl rfl ?_
  refine oI 17 X0 d33_16 rfl rfl <| oB 18 (v := (.int pi1)) X0 F0 ⟨by decide, by decide⟩ rfl d33_17 rfl <| oA 19 X0 d33_18 rfl rfl <| oI 20 X0 d33_19 rfl rfl <| oB 21 (v := (.int pi6)) X0 F1 ⟨by decide, by decide⟩ rfl d33_20 rfl <| oY 26 X0 d33_21 (by decide) (teq pc_0).1 <| oJ 29 1 #[rr pa1, rr pa2, ii 1] X0 d33_26 rfl rfl (by decide) rfl <| og 9 X0 d33_29 (by decide) <| oI 10 X0 d33_9 rfl rfl <| oA 11 X0 d33_10 rfl rfl <| oL 12 X0 F0 d33_11 rfl <| oN 15 X0 d33_12 rfl (tlt (by decide)).2.1 ?_
  refine oA 16 X0 d33_15 rfl rfl <| oI 17 X0 d33_16 rfl rfl <| oB 18 (v := (.int pi2)) X0 F0 ⟨by decide, by decide⟩ rfl d33_17 rfl <| oA 19 X0 d33_18 rfl rfl <| oI 20 X0 d33_19 rfl rfl <| oB 21 (v := (.int pi2)) X0 F1 ⟨by decide, by decide⟩ rfl d33_20 rfl <| oY 26 X0 d33_21 (by decide) (teq rfl).1 <| oJ 29 2 #[rr pa1, rr pa2, ii 2] X0 d33_26 rfl rfl (by decide) rfl <| og 9 X0 d33_29 (by decide) <| oI 10 X0 d33_9 rfl rfl <| oA 11 X0 d33_10 rfl rfl <| oL 12 X0 F0 d33_11 rfl ?_
  refine oN 15 X0 d33_12 rfl (tlt (by decide)).2.1 <| oA 16 X0 d33_15 rfl rfl <| oI 17 X0 d33_16 rfl rfl <| oB 18 (v := (.int pi3)) X0 F0 ⟨by decide, by decide⟩ rfl d33_17 rfl <| oA 19 X0 d33_18 rfl rfl <| oI 20 X0 d33_19 rfl rfl <| oB 21 (v := (.int pi3)) X0 F1 ⟨by decide, by decide⟩ rfl d33_20 rfl <| oY 26 X0 d33_21 (by decide) (teq rfl).1 <| oJ 29 3 #[rr pa1, rr pa2, ii 3] X0 d33_26 rfl rfl (by decide) rfl <| og 9 X0 d33_29 (by decide) <| oI 10 X0 d33_9 rfl rfl <| oA 11 X0 d33_10 rfl rfl ?_
  refine oL 12 X0 F0 d33_11 rfl <| oN 15 X0 d33_12 rfl (tlt (by decide)).2.1 <| oA 16 X0 d33_15 rfl rfl <| oI 17 X0 d33_16 rfl rfl <| oB 18 (v := (.int pi4)) X0 F0 ⟨by decide, by decide⟩ rfl d33_17 rfl <| oA 19 X0 d33_18 rfl rfl <| oI 20 X0 d33_19 rfl rfl <| oB 21 (v := (.int pi7)) X0 F1 ⟨by decide, by decide⟩ rfl d33_20 rfl <| oY 26 X0 d33_21 (by decide) (teq pc_1).1 <| oJ 29 4 #[rr pa1, rr pa2, ii 4] X0 d33_26 rfl rfl (by decide) rfl <| og 9 X0 d33_29 (by decide) <| oI 10 X0 d33_9 rfl rfl ?_
  refine oA 11 X0 d33_10 rfl rfl <| oL 12 X0 F0 d33_11 rfl <| oN 15 X0 d33_12 rfl (tlt (by decide)).2.1 <| oA 16 X0 d33_15 rfl rfl <| oI 17 X0 d33_16 rfl rfl <| oB 18 (v := (.int pi5)) X0 F0 ⟨by decide, by decide⟩ rfl d33_17 rfl <| oA 19 X0 d33_18 rfl rfl <| oI 20 X0 d33_19 rfl rfl <| oB 21 (v := (.int pi8)) X0 F1 ⟨by decide, by decide⟩ rfl d33_20 rfl <| oY 26 X0 d33_21 (by decide) (teq pc_2).1 <| oJ 29 5 #[rr pa1, rr pa2, ii 5] X0 d33_26 rfl rfl (by decide) rfl <| og 9 X0 d33_29 (by decide) ?_
  refine oI 10 X0 d33_9 rfl rfl <| oA 11 X0 d33_10 rfl rfl <| oL 12 X0 F0 d33_11 rfl <| oY 32 X0 d33_12 (by decide) (flt (by decide)).2.1 <| oc 33 (v := 1) X0 d33_32 rfl (by decide) ?_
  exact o_nret (y := (1 : Int32)) (t := .boolean) X0 d33_33 rfl (by decide) (by simp) (by decide) (by decide) (fun _ CC => rfl)
theorem rm_au182 (G : GL l Z a0 zc fmt kpp) (F0 : fd1 Z h0 pa1 (.int pi100)) (F1 : fd0 Z h0 pa1 (.ref pa3)) (F2 : ex1 Z h0 pa2) (F3 : fd1 Z h0 pa2 (.int pi101)) (F4 : fd0 Z h0 pa2 (.ref pa4)) (F5 : av0 Z h0 pa3 pk1 5 [.int pi102, .int pi1, .int pi2, .int pi103, .int pi104]) (F6 : av0 Z h0 pa4 pk2 5 [.int pi105, .int pi1, .int pi2, .int pi106, .int pi107]) (pc_0 : pi100 = pi101) (pc_1 : pi102 = pi105) (pc_2 : pi103 = pi106) (pc_3 : pi104 = pi107) (ne : NE pa1 pa2) : M32 l Z 1 0 0 14 #[.ref pa1, .ref pa2] h0 n0 [] [] (Q16 Z  h0) := by
  refine mi B32 ef8 (hEW G) fun s X0 hsf0 n0le => ?_
  have := F0.l
  have := F2.l
  have := F5.l
  have := F6.l
  refine oA 1 X0 d32_0 rfl rfl <| oA 2 X0 d32_1 rfl rfl <| o_acmp 7 (same := false) X0 d32_2 rfl rfl (decide_eq_false (fun q => absurd (Value.ref.inj q) (own_ne (by omega)))) (by decide) (by decide) <| oA 8 X0 d32_7 rfl rfl <| o_instY 11 X0 (w174 G) (Ins.self F2) d32_8 rfl ?_
  intro _ X2
  refine on 14 X2 d32_11 rfl ((if0 _ _).trans (feq (by decide)).1) <| oA 15 X2 d32_14 rfl rfl <| o_castY 18 X2 (w174 G) (Ins.self F2) d32_15 rfl ?_
  intro _ X4
  refine oV 19 (l' := #[rr pa1, rr pa2, rr pa2]) X4 d32_18 rfl rfl rfl <| oG 22 X4 (w23 G) Via.refl ((sg5 G).ext X4.old.2) d32_19 rfl ?_
  intro _ X6
  refine on 25 X6 d32_22 rfl ((if0 _ _).trans (feq (hzc G)).1) <| oA 26 X6 d32_25 rfl rfl <| oF 29 X6 (w22 G) Via.refl F0 d32_26 rfl ?_
  intro _ X8
  refine oA 30 X8 d32_29 rfl rfl <| oF 33 X8 (w22 G) Via.refl F3 d32_30 rfl ?_
  intro _ X10
  refine oN 36 X10 d32_33 rfl (teq pc_0).2 <| oA 37 X10 d32_36 rfl rfl <| oF 40 X10 (w21 G) Via.refl F1 d32_37 rfl ?_
  intro _ X12
  refine oA 41 X12 d32_40 rfl rfl <| oF 44 X12 (w21 G) Via.refl F4 d32_41 rfl ?_
  intro _ X14
  refine mS 47 0 X14 (rm_au181 G F5 F6 pc_1 pc_2 pc_3) (u30 G) all0 d32_44 rfl rfl rfl lr (by decide) all0 ?_
  rintro _ _ _ _ X15 rfl _ _ _
  refine on 50 X15 d32_47 rfl ((if0 _ _).trans (feq (by decide)).1) <| oc 51 (v := 1) X15 d32_50 rfl (by decide) <| og 55 X15 d32_51 (by decide) ?_
  exact o_nret (y := (1 : Int32)) (t := .boolean) X15 d32_55 rfl (by decide) (by simp) (by decide) (by decide) (fun _ CC => rfl)
theorem rm_au183 (G : GL l Z a0 zc fmt kpp) (F0 : av1 Z h0 pa1 pk1 4 [.int 47, .int pi1, .int pi2, .int pi3]) (F1 : av0 Z h0 pa2 pk2 4 [i0, i0, i0, i0]) (F2 : ex0 Z h0 pa2) (bg_pi1 : (255 : Int32) < pi1 ∧ ¬ (65535 : Int32) < pi1) (ne : NE pa1 pa2 ∧ n0 ≤ pa2) : M6 l Z 0 0 0 0 #[.ref pa1, i0, .ref pa2, i0, .int 4] h0 n0 [pa2] [pa2] (Q25 Z pa2 pk2 h0) := by
  refine mi B6 ef6 (hEW G) fun s X0 hsf0 n0le => ?_
  have := F0.l
  have := F1.l
  have sf_pa2 := hsf0 pa2 (by simp)
  refine oc 1 (v := 0) X0 d6_0 rfl (by decide) <| oS 3 (l' := #[rr pa1, ii 0, rr pa2, ii 0, ii 4, ii 0, uu]) X0 d6_1 rfl rfl <| oi 5 X0 d6_3 rfl rfl <| oi 7 X0 d6_5 rfl rfl <| oN 10 X0 d6_7 rfl (tlt (by decide)).2.1 <| oA 11 X0 d6_10 rfl rfl <| oI 12 X0 d6_11 rfl rfl <| oC 13 (v := (.int 47)) X0 F0 ⟨by decide, by decide⟩ rfl d6_12 rfl <| oS 15 (l' := #[rr pa1, ii 0, rr pa2, ii 0, ii 4, ii 0, ii 47]) X0 d6_13 rfl rfl <| oi 17 X0 d6_15 rfl rfl <| o_sipush 20 (v := 255) X0 d6_17 rfl (by decide) <| oY 26 X0 d6_20 (by decide) (flt (by decide)).2.2.2 ?_
  refine oA 27 X0 d6_26 rfl rfl <| oI 28 X0 d6_27 rfl rfl <| oi 30 X0 d6_28 rfl rfl <| o_i2b 31 (v := 47) X0 d6_30 rfl (by decide) <| sB 32 0 47 X0 F1 (by decide) (lb rfl) (by decide) d6_31 rfl (by omega) (Or.inl (by simp)) sf_pa2 ?_
  rintro _ _ X1 ⟨_, _, W1⟩ _ V1
  have := W1.size
  have V2 := V1.as [.int 47, i0, i0, i0] rfl
  refine oJ 35 1 #[rr pa1, ii 1, rr pa2, ii 0, ii 4, ii 0, ii 47] X1 d6_32 rfl rfl (by decide) rfl <| oJ 38 1 #[rr pa1, ii 1, rr pa2, ii 1, ii 4, ii 0, ii 47] X1 d6_35 rfl rfl (by decide) rfl <| oJ 41 1 #[rr pa1, ii 1, rr pa2, ii 1, ii 4, ii 1, ii 47] X1 d6_38 rfl rfl (by decide) rfl <| og 3 X1 d6_41 (by decide) <| oi 5 X1 d6_3 rfl rfl <| oi 7 X1 d6_5 rfl rfl <| oN 10 X1 d6_7 rfl (tlt (by decide)).2.1 <| oA 11 X1 d6_10 rfl rfl <| oI 12 X1 d6_11 rfl rfl ?_
  have f3 := F0.oth W1 (by omega)
  refine oC 13 (v := (.int pi1)) X1 f3 ⟨by decide, by decide⟩ rfl d6_12 rfl <| oS 15 (l' := #[rr pa1, ii 1, rr pa2, ii 1, ii 4, ii 1, ii pi1]) X1 d6_13 rfl rfl <| oi 17 X1 d6_15 rfl rfl <| o_sipush 20 (v := 255) X1 d6_17 rfl (by decide) <| oN 23 X1 d6_20 rfl (tlt bg_pi1.1).2.2.2 <| oi 25 X1 d6_23 rfl rfl ?_
  have f4 := F2.wr W1
  exact o_iret X1 d6_25 rfl (by decide) (by decide) (fun _ CC => ⟨rfl, V2, f4⟩)
def Q92 (Z : State) (b1 b2 b3 : Int32) (h0 : Heap) (v : Option Value) (h : Heap) (vm : Vm) : Prop := ∃ (xa1 : Addr) (xk1 : ClassId), v = some (.ref xa1) ∧ av0 Z h xa1 xk1 8 [.int 47, i0, .int ((b1 >>> ((0 : Int32) &&& 31)).toInt8.toInt32), .int ((b1 >>> ((8 : Int32) &&& 31)).toInt8.toInt32), .int ((b2 >>> ((0 : Int32) &&& 31)).toInt8.toInt32), .int ((b2 >>> ((8 : Int32) &&& 31)).toInt8.toInt32), .int ((b3 >>> ((0 : Int32) &&& 31)).toInt8.toInt32), .int ((b3 >>> ((8 : Int32) &&& 31)).toInt8.toInt32)] ∧ ex0 Z h xa1 ∧ Safe Z EL0 vm h xa1 ∧ h0.size ≤ xa1 ∧ h.size > xa1
theorem rm_au184 (G : GL l Z a0 zc fmt kpp) (F0 : av1 Z h0 pa1 pk1 4 [.int 47, .int pi1, .int pi2, .int pi3]) (bg_pi1 : (255 : Int32) < pi1 ∧ ¬ (65535 : Int32) < pi1) : M36 l Z 2 1 8 24 #[.ref pa1, i0, .int 4] h0 n0 [] [] (Q92 Z pi1 pi2 pi3 h0) := by
  refine mi B36 ef13 (hEW G) fun s X0 hsf0 n0le => ?_
  have := F0.l
  refine oI 1 X0 d36_0 rfl rfl <| mS 4 0 X0 (rm_au51 G ) (u35 G) all0 d36_1 rfl rfl rfl lr (by decide) all0 ?_
  rintro _ _ _ _ X1 ⟨xa1_2, xk1_3, rfl, q4, q5, q6, _⟩ K1 _ _
  refine oV 5 (l' := #[rr pa1, ii 0, ii 4, rr xa1_2, uu]) X1 d36_4 rfl rfl rfl <| oc 6 (v := 0) X1 d36_5 rfl (by decide) <| oS 8 (l' := #[rr pa1, ii 0, ii 4, rr xa1_2, ii 0]) X1 d36_6 rfl rfl <| oi 10 X1 d36_8 rfl rfl <| oI 11 X1 d36_10 rfl rfl <| oN 14 X1 d36_11 rfl (tlt (by decide)).2.1 <| oA 15 X1 d36_14 rfl rfl <| oi 17 X1 d36_15 rfl rfl <| oA 18 X1 d36_17 rfl rfl <| oI 19 X1 d36_18 rfl rfl ?_
  have f8 := F0.k0 K1
  refine oC 20 (v := (.int 47)) X1 f8 ⟨by decide, by decide⟩ rfl d36_19 rfl <| mS 23 0 X1 (rm_putChar G q5 q4 ⟨by decide, by decide⟩ ⟨by decide, by decide⟩ (Nat.le_of_ble_eq_true rfl) (Nat.le_of_ble_eq_true rfl) (by omega)) (u36 G) (sS (by omega) q6 all0) d36_20 rfl rfl rfl lr (by decide) (aR (by omega) all0) ?_
  rintro _ _ _ _ X9 ⟨rfl, q10, q11⟩ K9 _ C9
  have V12 := q11.as [.int 47, i0, i0, i0, i0, i0, i0, i0] rfl
  refine oJ 26 1 #[rr pa1, ii 1, ii 4, rr xa1_2, ii 0] X9 d36_23 rfl rfl (by decide) rfl <| oJ 29 1 #[rr pa1, ii 1, ii 4, rr xa1_2, ii 1] X9 d36_26 rfl rfl (by decide) rfl <| og 8 X9 d36_29 (by decide) <| oi 10 X9 d36_8 rfl rfl <| oI 11 X9 d36_10 rfl rfl <| oN 14 X9 d36_11 rfl (tlt (by decide)).2.1 <| oA 15 X9 d36_14 rfl rfl <| oi 17 X9 d36_15 rfl rfl <| oA 18 X9 d36_17 rfl rfl <| oI 19 X9 d36_18 rfl rfl ?_
  have f13 := f8.k1 K9 (by omega)
  refine oC 20 (v := (.int pi1)) X9 f13 ⟨by decide, by decide⟩ rfl d36_19 rfl ?_
  have f14 := C9.safe (own_lt (by omega)) q6
  refine mS 23 0 X9 (rm_putChar G q10 V12 ⟨by decide, by decide⟩ ⟨by decide, by decide⟩ (Nat.le_of_ble_eq_true rfl) (Nat.le_of_ble_eq_true rfl) (by omega)) (u36 G) (sS (by omega) f14 all0) d36_20 rfl rfl rfl lr (by decide) (aR (by omega) all0) ?_
  rintro _ _ _ _ X15 ⟨rfl, q16, q17⟩ K15 _ C15
  have V18 := q17.as [.int 47, i0, .int ((pi1 >>> ((0 : Int32) &&& 31)).toInt8.toInt32), .int ((pi1 >>> ((8 : Int32) &&& 31)).toInt8.toInt32), i0, i0, i0, i0] rfl
  refine oJ 26 2 #[rr pa1, ii 2, ii 4, rr xa1_2, ii 1] X15 d36_23 rfl rfl (by decide) rfl <| oJ 29 2 #[rr pa1, ii 2, ii 4, rr xa1_2, ii 2] X15 d36_26 rfl rfl (by decide) rfl <| og 8 X15 d36_29 (by decide) <| oi 10 X15 d36_8 rfl rfl <| oI 11 X15 d36_10 rfl rfl <| oN 14 X15 d36_11 rfl (tlt (by decide)).2.1 <| oA 15 X15 d36_14 rfl rfl <| oi 17 X15 d36_15 rfl rfl <| oA 18 X15 d36_17 rfl rfl <| oI 19 X15 d36_18 rfl rfl ?_
  have f19 := f13.k1 K15 (by omega)
  refine oC 20 (v := (.int pi2)) X15 f19 ⟨by decide, by decide⟩ rfl d36_19 rfl ?_
  have f20 := C15.safe (own_lt (by omega)) f14
  refine mS 23 0 X15 (rm_putChar G q16 V18 ⟨by decide, by decide⟩ ⟨by decide, by decide⟩ (Nat.le_of_ble_eq_true rfl) (Nat.le_of_ble_eq_true rfl) (by omega)) (u36 G) (sS (by omega) f20 all0) d36_20 rfl rfl rfl lr (by decide) (aR (by omega) all0) ?_
  rintro _ _ _ _ X21 ⟨rfl, q22, q23⟩ K21 _ C21
  have V24 := q23.as [.int 47, i0, .int ((pi1 >>> ((0 : Int32) &&& 31)).toInt8.toInt32), .int ((pi1 >>> ((8 : Int32) &&& 31)).toInt8.toInt32), .int ((pi2 >>> ((0 : Int32) &&& 31)).toInt8.toInt32), .int ((pi2 >>> ((8 : Int32) &&& 31)).toInt8.toInt32), i0, i0] rfl
  refine oJ 26 3 #[rr pa1, ii 3, ii 4, rr xa1_2, ii 2] X21 d36_23 rfl rfl (by decide) rfl <| oJ 29 3 #[rr pa1, ii 3, ii 4, rr xa1_2, ii 3] X21 d36_26 rfl rfl (by decide) rfl <| og 8 X21 d36_29 (by decide) <| oi 10 X21 d36_8 rfl rfl <| oI 11 X21 d36_10 rfl rfl <| oN 14 X21 d36_11 rfl (tlt (by decide)).2.1 <| oA 15 X21 d36_14 rfl rfl <| oi 17 X21 d36_15 rfl rfl <| oA 18 X21 d36_17 rfl rfl <| oI 19 X21 d36_18 rfl rfl ?_
  have f25 := f19.k1 K21 (by omega)
  refine oC 20 (v := (.int pi3)) X21 f25 ⟨by decide, by decide⟩ rfl d36_19 rfl ?_
  have f26 := C21.safe (own_lt (by omega)) f20
  refine mS 23 0 X21 (rm_putChar G q22 V24 ⟨by decide, by decide⟩ ⟨by decide, by decide⟩ (Nat.le_of_ble_eq_true rfl) (Nat.le_of_ble_eq_true rfl) (by omega)) (u36 G) (sS (by omega) f26 all0) d36_20 rfl rfl rfl lr (by decide) (aR (by omega) all0) ?_
  rintro _ _ _ _ X27 ⟨rfl, q28, q29⟩ _ _ C27
  have V30 := q29.as [.int 47, i0, .int ((pi1 >>> ((0 : Int32) &&& 31)).toInt8.toInt32), .int ((pi1 >>> ((8 : Int32) &&& 31)).toInt8.toInt32), .int ((pi2 >>> ((0 : Int32) &&& 31)).toInt8.toInt32), .int ((pi2 >>> ((8 : Int32) &&& 31)).toInt8.toInt32), .int ((pi3 >>> ((0 : Int32) &&& 31)).toInt8.toInt32), .int ((pi3 >>> ((8 : Int32) &&& 31)).toInt8.toInt32)] rfl
  refine oJ 26 4 #[rr pa1, ii 4, ii 4, rr xa1_2, ii 3] X27 d36_23 rfl rfl (by decide) rfl <| oJ 29 4 #[rr pa1, ii 4, ii 4, rr xa1_2, ii 4] X27 d36_26 rfl rfl (by decide) rfl <| og 8 X27 d36_29 (by decide) <| oi 10 X27 d36_8 rfl rfl <| oI 11 X27 d36_10 rfl rfl <| oY 32 X27 d36_11 (by decide) (flt (by decide)).2.1 <| oA 33 X27 d36_32 rfl rfl ?_
  have f31 := C27.safe (own_lt (by omega)) f26
  exact oR X27 d36_33 rfl rfl rfl (by decide) (by decide) (fun _ CC => ⟨xa1_2, xk1_3, rfl, V30, q28, (CC.safe (own_lt (by omega)) f31), by omega⟩)
theorem rm_au185 (G : GL l Z a0 zc fmt kpp) (F0 : av1 Z h0 pa1 pk1 4 [.int 47, .int pi1, .int pi2, .int pi3]) (bg_pi1 : (255 : Int32) < pi1 ∧ ¬ (65535 : Int32) < pi1) : M5 l Z 3 2 12 40 #[.ref pa1, i0, .int 4] h0 n0 [] [] (Q92 Z pi1 pi2 pi3 h0) := by
  refine mi B5 ef5 (hEW G) fun s X0 hsf0 n0le => ?_
  have l1 := F0.l
  refine oI 1 X0 d5_0 rfl rfl <| nP (aty := .byte) 3 4 X0 (w16 G) d5_1 rfl (by decide) had_byte ?_
  intro _ h1 b1 k1 X1 _ l1 E1 V1 A1 _ S1
  have V2 : av0 Z h1 b1 k1 4 [i0, i0, i0, i0] := V1.pad (pad_rep [] (.int (0 : Int32)) 4)
  refine oV 4 (l' := #[rr pa1, ii 0, ii 4, rr b1, uu, uu]) X1 d5_3 rfl rfl rfl <| oA 5 X1 d5_4 rfl rfl <| oI 6 X1 d5_5 rfl rfl <| oA 7 X1 d5_6 rfl rfl <| oc 8 (v := 0) X1 d5_7 rfl (by decide) <| oI 9 X1 d5_8 rfl rfl ?_
  have f3 := F0.ext E1
  refine mS 12 0 X1 (rm_au183 G f3 V2 A1 bg_pi1 (by omega)) (u2 G) (sS (by omega) S1 all0) d5_9 rfl rfl rfl lr (by decide) (aR (by omega) all0) ?_
  rintro _ _ _ _ X4 ⟨rfl, _, _⟩ K4 _ _
  refine oS 14 (l' := #[rr pa1, ii 0, ii 4, rr b1, ii 1, uu]) X4 d5_12 rfl rfl <| oi 16 X4 d5_14 rfl rfl <| oI 17 X4 d5_16 rfl rfl <| oN 20 X4 d5_17 rfl (feq (by decide)).1 <| oA 21 X4 d5_20 rfl rfl <| oI 22 X4 d5_21 rfl rfl <| oI 23 X4 d5_22 rfl rfl ?_
  have f7 := f3.k1 K4 (by omega)
  refine mS 26 0 X4 (rm_au184 G f7 bg_pi1) (u37 G) all0 d5_23 rfl rfl rfl lr (by decide) all0 ?_
  rintro _ _ _ _ X8 ⟨xa1_9, xk1_10, rfl, q11, q12, q13, _⟩ _ _ _
  refine oU 28 (l' := #[rr pa1, ii 0, ii 4, rr b1, ii 1, rr xa1_9]) X8 d5_26 rfl rfl rfl <| oa 30 X8 d5_28 rfl rfl <| oi 32 X8 d5_30 rfl rfl <| mS 35 0 X8 (rm_getChar G q11 ⟨by decide, by decide⟩ ⟨by decide, by decide⟩ rfl rfl) (u38 G) all0 d5_32 rfl rfl rfl lr (by decide) all0 ?_
  rintro _ _ _ _ X15 rfl K15 _ C15
  refine o_sipush 38 (v := 255) X15 d5_35 rfl (by decide) <| oY 54 X15 d5_38 (by decide) (tlt (by rw [own_gcE bg_pi1]; exact bg_pi1.1)).2.2.1 <| oa 56 X15 d5_54 rfl rfl ?_
  have f16 := q11.k0 K15
  have f17 := q12.keep K15
  have f18 := C15.safe (own_lt (by omega)) q13
  exact oR X15 d5_56 rfl rfl rfl (by decide) (by decide) (fun _ CC => ⟨xa1_9, xk1_10, rfl, f16, f17, (CC.safe (own_lt (by omega)) f18), by omega⟩)
def Q93 (Z : State) (b1 : Addr) (b2 b3 b4 : Int32) (h0 : Heap) (v : Option Value) (h : Heap) (vm : Vm) : Prop := ∃ (xa1 : Addr) (xk1 : ClassId), v = none ∧ ex1 Z h b1 ∧ fd1 Z h b1 (.int 1) ∧ fd0 Z h b1 (.ref xa1) ∧ av0 Z h xa1 xk1 8 [.int 47, i0, .int ((b2 >>> ((0 : Int32) &&& 31)).toInt8.toInt32), .int ((b2 >>> ((8 : Int32) &&& 31)).toInt8.toInt32), .int ((b3 >>> ((0 : Int32) &&& 31)).toInt8.toInt32), .int ((b3 >>> ((8 : Int32) &&& 31)).toInt8.toInt32), .int ((b4 >>> ((0 : Int32) &&& 31)).toInt8.toInt32), .int ((b4 >>> ((8 : Int32) &&& 31)).toInt8.toInt32)] ∧ ex0 Z h xa1 ∧ Safe Z EL0 vm h xa1 ∧ h0.size ≤ xa1 ∧ h.size > xa1
theorem rm_au186 (G : GL l Z a0 zc fmt kpp) (F0 : ex1 Z h0 pa1) (F1 : fd1 Z h0 pa1 (.int 0)) (F2 : fd0 Z h0 pa1 .null) (F3 : av1 Z h0 pa2 pk1 4 [.int 47, .int pi1, .int pi2, .int pi3]) (bg_pi1 : (255 : Int32) < pi1 ∧ ¬ (65535 : Int32) < pi1) (ne : NE pa1 pa2 ∧ n0 ≤ pa1) : M4 l Z 4 2 12 57 #[.ref pa1, .ref pa2, i0, .int 4, .null] h0 n0 [pa1] [pa1] (Q93 Z pa1 pi1 pi2 pi3 h0) := by
  refine mi B4 ef4 (hEW G) fun s X0 hsf0 n0le => ?_
  have := F0.l
  have := F3.l
  have sf_pa1 := hsf0 pa1 (by simp)
  refine oA 1 X0 d4_0 rfl rfl <| o_initO 4 (W := 0) X0 (w12 G) (w13 G) (w14 G) rfl (by decide) (Nat.le_of_eq rfl) (by decide) d4_1 rfl ?_
  intro _ X2
  refine oI 5 X2 d4_4 rfl rfl <| oy 27 X2 d4_5 (by decide) ((if0 _ _).trans (feq (by decide)).2) <| oG 30 X2 (w23 G) Via.refl ((sg5 G).ext X2.old.2) d4_27 rfl ?_
  intro _ X4
  refine on 33 X4 d4_30 rfl ((if0 _ _).trans (feq (hzc G)).1) <| oA 34 X4 d4_33 rfl rfl <| oI 35 X4 d4_34 rfl rfl <| oI 36 X4 d4_35 rfl rfl <| mS 39 0 X4 (rm_au185 G F3 bg_pi1) (u3 G) all0 d4_36 rfl rfl rfl lr (by decide) all0 ?_
  rintro _ _ _ _ X5 ⟨xa1_6, xk1_7, rfl, q8, q9, q10, _⟩ K5 _ C5
  refine oU 41 (l' := #[rr pa1, rr pa2, ii 0, ii 4, .val .null, rr xa1_6]) X5 d4_39 rfl rfl rfl <| oA 42 X5 d4_41 rfl rfl <| oa 44 X5 d4_42 rfl rfl <| oI 45 X5 d4_44 rfl rfl <| mS 48 1 X5 (rm_au54 G q8) (u4 G) all0 d4_45 rfl rfl rfl lr (by decide) all0 ?_
  rintro _ _ _ _ X12 rfl K12 _ C12
  have f13 := (F1.k0 K5).k0 K12
  have f14 := (F0.keep K5).keep K12
  have f16 := C12.safe (own_lt (by omega)) (C5.safe (own_lt (by omega)) sf_pa1)
  refine oP 51 (v' := (.int 1)) X12 (w22 G) Via.refl f13 f14 (Or.inr ⟨(w18 G), rfl, rfl⟩) (w2 G) fd_1 rfl rfl d4_48 rfl (by omega) (Or.inl (by simp)) f16 ?_
  intro _ _ X15 W15 C15
  have := W15.size
  have f17 := f13.same W15
  refine oA 52 X15 d4_51 rfl rfl <| oa 54 X15 d4_52 rfl rfl ?_
  have f18 := ((F2.k0 K5).k0 K12).other W15 (Or.inr (sn1 G))
  have f19 := f14.wr W15
  have f21 := C15.safe (own_lt (by omega)) f16
  refine oP 57 (v' := (.ref xa1_6)) X15 (w21 G) Via.refl f18 f19 (Or.inr ⟨(w17 G), rfl, rfl⟩) (w2 G) fd_0 rfl rfl d4_54 rfl (by omega) (Or.inl (by simp)) f21 ?_
  intro _ _ X20 W20 C20
  have := W20.size
  have f22 := f18.same W20
  have f23 := f19.wr W20
  have f24 := f17.other W20 (Or.inr (sn0 G))
  have f25 := ((q8.k0 K12).oth W15 (by omega)).oth W20 (by omega)
  have f26 := ((q9.keep K12).wr W15).wr W20
  have f27 := C20.safe (own_lt (by omega)) (C15.safe (own_lt (by omega)) (C12.safe (own_lt (by omega)) q10))
  exact oz X20 d4_57 rfl (by decide) (by decide) (fun _ CC => ⟨xa1_6, xk1_7, rfl, f23, f24, f22, f25, f26, (CC.safe (own_lt (by omega)) f27), by omega⟩)
theorem rm_au187 (G : GL l Z a0 zc fmt kpp) (F0 : ex1 Z h0 pa1) (F1 : fd1 Z h0 pa1 (.int 0)) (F2 : fd0 Z h0 pa1 .null) (F3 : av1 Z h0 pa2 pk1 4 [.int 47, .int pi1, .int pi2, .int pi3]) (bg_pi1 : (255 : Int32) < pi1 ∧ ¬ (65535 : Int32) < pi1) (ne : NE pa1 pa2 ∧ n0 ≤ pa1) : M3 l Z 5 2 12 74 #[.ref pa1, .ref pa2] h0 n0 [pa1] [pa1] (Q93 Z pa1 pi1 pi2 pi3 h0) := by
  refine mi B3 ef3 (hEW G) fun s X0 hsf0 n0le => ?_
  have := F0.l
  have := F3.l
  have sf_pa1 := hsf0 pa1 (by simp)
  refine oA 1 X0 d3_0 rfl rfl <| oA 2 X0 d3_1 rfl rfl <| oc 3 (v := 0) X0 d3_2 rfl (by decide) <| oA 4 X0 d3_3 rfl rfl <| oL 5 X0 F3 d3_4 rfl <| o_aconstNull 6 X0 d3_5 rfl <| mP 9 0 X0 (rm_au186 G F0 F1 F2 F3 bg_pi1 (by omega)) (u0 G) (sS (by omega) sf_pa1 all0) d3_6 rfl rfl rfl lr (by decide) (aI (by omega) (by simp) all0) ?_
  rintro _ _ _ _ X1 ⟨xa1_2, xk1_3, rfl, q4, q5, q6, q7, q8, q9, _⟩ _ _ _
  exact oz X1 d3_9 rfl (by decide) (by decide) (fun _ CC => ⟨xa1_2, xk1_3, rfl, q4, q5, q6, q7, q8, (CC.safe (own_lt (by omega)) q9), by omega⟩)
def Q94 (Z : State) (b1 : Addr) (b2 : ClassId) (h0 : Heap) (v : Option Value) (h : Heap) (vm : Vm) : Prop := v = some (.int 1) ∧ av0 Z h b1 b2 6 [.int 47, i0, i0, i0, i0, i0] ∧ ex0 Z h b1
theorem rm_au188 (G : GL l Z a0 zc fmt kpp) (F0 : av1 Z h0 pa1 pk1 6 [.int 47, .int pi1, .int pi2, .int pi3, .int 47, .int 42]) (F1 : av0 Z h0 pa2 pk2 6 [i0, i0, i0, i0, i0, i0]) (F2 : ex0 Z h0 pa2) (bg_pi1 : (255 : Int32) < pi1 ∧ ¬ (65535 : Int32) < pi1) (ne : NE pa1 pa2 ∧ n0 ≤ pa2) : M6 l Z 0 0 0 0 #[.ref pa1, i0, .ref pa2, i0, .int 6] h0 n0 [pa2] [pa2] (Q94 Z pa2 pk2 h0) := by
  refine mi B6 ef6 (hEW G) fun s X0 hsf0 n0le => ?_
  have := F0.l
  have := F1.l
  have sf_pa2 := hsf0 pa2 (by simp)
  refine oc 1 (v := 0) X0 d6_0 rfl (by decide) <| oS 3 (l' := #[rr pa1, ii 0, rr pa2, ii 0, ii 6, ii 0, uu]) X0 d6_1 rfl rfl <| oi 5 X0 d6_3 rfl rfl <| oi 7 X0 d6_5 rfl rfl <| oN 10 X0 d6_7 rfl (tlt (by decide)).2.1 <| oA 11 X0 d6_10 rfl rfl <| oI 12 X0 d6_11 rfl rfl <| oC 13 (v := (.int 47)) X0 F0 ⟨by decide, by decide⟩ rfl d6_12 rfl <| oS 15 (l' := #[rr pa1, ii 0, rr pa2, ii 0, ii 6, ii 0, ii 47]) X0 d6_13 rfl rfl <| oi 17 X0 d6_15 rfl rfl <| o_sipush 20 (v := 255) X0 d6_17 rfl (by decide) <| oY 26 X0 d6_20 (by decide) (flt (by decide)).2.2.2 ?_
  refine oA 27 X0 d6_26 rfl rfl <| oI 28 X0 d6_27 rfl rfl <| oi 30 X0 d6_28 rfl rfl <| o_i2b 31 (v := 47) X0 d6_30 rfl (by decide) <| sB 32 0 47 X0 F1 (by decide) (lb rfl) (by decide) d6_31 rfl (by omega) (Or.inl (by simp)) sf_pa2 ?_
  rintro _ _ X1 ⟨_, _, W1⟩ _ V1
  have := W1.size
  have V2 := V1.as [.int 47, i0, i0, i0, i0, i0] rfl
  refine oJ 35 1 #[rr pa1, ii 1, rr pa2, ii 0, ii 6, ii 0, ii 47] X1 d6_32 rfl rfl (by decide) rfl <| oJ 38 1 #[rr pa1, ii 1, rr pa2, ii 1, ii 6, ii 0, ii 47] X1 d6_35 rfl rfl (by decide) rfl <| oJ 41 1 #[rr pa1, ii 1, rr pa2, ii 1, ii 6, ii 1, ii 47] X1 d6_38 rfl rfl (by decide) rfl <| og 3 X1 d6_41 (by decide) <| oi 5 X1 d6_3 rfl rfl <| oi 7 X1 d6_5 rfl rfl <| oN 10 X1 d6_7 rfl (tlt (by decide)).2.1 <| oA 11 X1 d6_10 rfl rfl <| oI 12 X1 d6_11 rfl rfl ?_
  have f3 := F0.oth W1 (by omega)
  refine oC 13 (v := (.int pi1)) X1 f3 ⟨by decide, by decide⟩ rfl d6_12 rfl <| oS 15 (l' := #[rr pa1, ii 1, rr pa2, ii 1, ii 6, ii 1, ii pi1]) X1 d6_13 rfl rfl <| oi 17 X1 d6_15 rfl rfl <| o_sipush 20 (v := 255) X1 d6_17 rfl (by decide) <| oN 23 X1 d6_20 rfl (tlt bg_pi1.1).2.2.2 <| oi 25 X1 d6_23 rfl rfl ?_
  have f4 := F2.wr W1
  exact o_iret X1 d6_25 rfl (by decide) (by decide) (fun _ CC => ⟨rfl, V2, f4⟩)
def Q95 (Z : State) (h0 : Heap) (v : Option Value) (h : Heap) (vm : Vm) : Prop := v = some (.int 12)
theorem rm_au189 (G : GL l Z a0 zc fmt kpp)  : M38 l Z 0 0 0 0 #[.int 6] h0 n0 [] [] (Q95 Z  h0) := by
  refine mi B38 ef16 (hEW G) fun s X0 hsf0 n0le => ?_
  refine oI 1 X0 d38_0 rfl rfl <| oy 12 X0 d38_1 (by decide) ((if0 _ _).trans (flt (by decide)).2.1) <| oI 13 X0 d38_12 rfl rfl <| o_ldcI 15 (v := (1073741823 : Int32)) X0 (w199 G) d38_13 rfl <| oY 55 X0 d38_15 (by decide) (tlt (by decide)).1 <| oI 56 X0 d38_55 rfl rfl <| oc 57 (v := 1) X0 d38_56 rfl (by decide) <| o_ishl 58 (v := 12) X0 d38_57 rfl (by decide) ?_
  exact o_iret X0 d38_58 rfl (by decide) (by decide) (fun _ CC => rfl)
def Q96 (Z : State) (h0 : Heap) (v : Option Value) (h : Heap) (vm : Vm) : Prop := ∃ (xa1 : Addr) (xk1 : ClassId), v = some (.ref xa1) ∧ av0 Z h xa1 xk1 12 [i0, i0, i0, i0, i0, i0, i0, i0, i0, i0, i0, i0] ∧ ex0 Z h xa1 ∧ Safe Z EL0 vm h xa1 ∧ h0.size ≤ xa1 ∧ h.size > xa1
theorem rm_au190 (G : GL l Z a0 zc fmt kpp)  : M37 l Z 1 1 12 12 #[.int 6] h0 n0 [] [] (Q96 Z  h0) := by
  refine mi B37 ef16 (hEW G) fun s X0 hsf0 n0le => ?_
  refine oI 1 X0 d37_0 rfl rfl <| mS 4 0 X0 (rm_au189 G ) (u34 G) all0 d37_1 rfl rfl rfl lr (by decide) all0 ?_
  rintro _ _ _ _ X1 rfl _ _ _
  refine nP (aty := .byte) 6 12 X1 (w16 G) d37_4 rfl (by decide) had_byte ?_
  intro _ h2 b2 k2 X2 _ _ _ V2 A2 _ S2
  have V3 : av0 Z h2 b2 k2 12 [i0, i0, i0, i0, i0, i0, i0, i0, i0, i0, i0, i0] := V2.pad (pad_rep [] (.int (0 : Int32)) 12)
  exact oR X2 d37_6 rfl rfl rfl (by decide) (by decide) (fun _ CC => ⟨b2, k2, rfl, V3, A2, (CC.safe (own_lt (by omega)) S2), by omega⟩)
def Q97 (Z : State) (b1 b2 b3 : Int32) (h0 : Heap) (v : Option Value) (h : Heap) (vm : Vm) : Prop := ∃ (xa1 : Addr) (xk1 : ClassId), v = some (.ref xa1) ∧ av0 Z h xa1 xk1 12 [.int 47, i0, .int ((b1 >>> ((0 : Int32) &&& 31)).toInt8.toInt32), .int ((b1 >>> ((8 : Int32) &&& 31)).toInt8.toInt32), .int ((b2 >>> ((0 : Int32) &&& 31)).toInt8.toInt32), .int ((b2 >>> ((8 : Int32) &&& 31)).toInt8.toInt32), .int ((b3 >>> ((0 : Int32) &&& 31)).toInt8.toInt32), .int ((b3 >>> ((8 : Int32) &&& 31)).toInt8.toInt32), .int 47, i0, .int 42, i0] ∧ ex0 Z h xa1 ∧ Safe Z EL0 vm h xa1 ∧ h0.size ≤ xa1 ∧ h.size > xa1
theorem rm_au191 (G : GL l Z a0 zc fmt kpp) (F0 : av1 Z h0 pa1 pk1 6 [.int 47, .int pi1, .int pi2, .int pi3, .int 47, .int 42]) (bg_pi1 : (255 : Int32) < pi1 ∧ ¬ (65535 : Int32) < pi1) : M36 l Z 2 1 12 24 #[.ref pa1, i0, .int 6] h0 n0 [] [] (Q97 Z pi1 pi2 pi3 h0) := by
  refine mi B36 ef13 (hEW G) fun s X0 hsf0 n0le => ?_
  have := F0.l
  refine oI 1 X0 d36_0 rfl rfl <| mS 4 0 X0 (rm_au190 G ) (u35 G) all0 d36_1 rfl rfl rfl lr (by decide) all0 ?_
  rintro _ _ _ _ X1 ⟨xa1_2, xk1_3, rfl, q4, q5, q6, _⟩ K1 _ _
  refine oV 5 (l' := #[rr pa1, ii 0, ii 6, rr xa1_2, uu]) X1 d36_4 rfl rfl rfl <| oc 6 (v := 0) X1 d36_5 rfl (by decide) <| oS 8 (l' := #[rr pa1, ii 0, ii 6, rr xa1_2, ii 0]) X1 d36_6 rfl rfl <| oi 10 X1 d36_8 rfl rfl <| oI 11 X1 d36_10 rfl rfl <| oN 14 X1 d36_11 rfl (tlt (by decide)).2.1 <| oA 15 X1 d36_14 rfl rfl <| oi 17 X1 d36_15 rfl rfl <| oA 18 X1 d36_17 rfl rfl <| oI 19 X1 d36_18 rfl rfl ?_
  have f8 := F0.k0 K1
  refine oC 20 (v := (.int 47)) X1 f8 ⟨by decide, by decide⟩ rfl d36_19 rfl <| mS 23 0 X1 (rm_putChar G q5 q4 ⟨by decide, by decide⟩ ⟨by decide, by decide⟩ (Nat.le_of_ble_eq_true rfl) (Nat.le_of_ble_eq_true rfl) (by omega)) (u36 G) (sS (by omega) q6 all0) d36_20 rfl rfl rfl lr (by decide) (aR (by omega) all0) ?_
  rintro _ _ _ _ X9 ⟨rfl, q10, q11⟩ K9 _ C9
  have V12 := q11.as [.int 47, i0, i0, i0, i0, i0, i0, i0, i0, i0, i0, i0] rfl
  refine oJ 26 1 #[rr pa1, ii 1, ii 6, rr xa1_2, ii 0] X9 d36_23 rfl rfl (by decide) rfl <| oJ 29 1 #[rr pa1, ii 1, ii 6, rr xa1_2, ii 1] X9 d36_26 rfl rfl (by decide) rfl <| og 8 X9 d36_29 (by decide) <| oi 10 X9 d36_8 rfl rfl <| oI 11 X9 d36_10 rfl rfl <| oN 14 X9 d36_11 rfl (tlt (by decide)).2.1 <| oA 15 X9 d36_14 rfl rfl <| oi 17 X9 d36_15 rfl rfl <| oA 18 X9 d36_17 rfl rfl <| oI 19 X9 d36_18 rfl rfl ?_
  have f13 := f8.k1 K9 (by omega)
  refine oC 20 (v := (.int pi1)) X9 f13 ⟨by decide, by decide⟩ rfl d36_19 rfl ?_
  have f14 := C9.safe (own_lt (by omega)) q6
  refine mS 23 0 X9 (rm_putChar G q10 V12 ⟨by decide, by decide⟩ ⟨by decide, by decide⟩ (Nat.le_of_ble_eq_true rfl) (Nat.le_of_ble_eq_true rfl) (by omega)) (u36 G) (sS (by omega) f14 all0) d36_20 rfl rfl rfl lr (by decide) (aR (by omega) all0) ?_
  rintro _ _ _ _ X15 ⟨rfl, q16, q17⟩ K15 _ C15
  have V18 := q17.as [.int 47, i0, .int ((pi1 >>> ((0 : Int32) &&& 31)).toInt8.toInt32), .int ((pi1 >>> ((8 : Int32) &&& 31)).toInt8.toInt32), i0, i0, i0, i0, i0, i0, i0, i0] rfl
  refine oJ 26 2 #[rr pa1, ii 2, ii 6, rr xa1_2, ii 1] X15 d36_23 rfl rfl (by decide) rfl <| oJ 29 2 #[rr pa1, ii 2, ii 6, rr xa1_2, ii 2] X15 d36_26 rfl rfl (by decide) rfl <| og 8 X15 d36_29 (by decide) <| oi 10 X15 d36_8 rfl rfl <| oI 11 X15 d36_10 rfl rfl <| oN 14 X15 d36_11 rfl (tlt (by decide)).2.1 <| oA 15 X15 d36_14 rfl rfl <| oi 17 X15 d36_15 rfl rfl <| oA 18 X15 d36_17 rfl rfl <| oI 19 X15 d36_18 rfl rfl ?_
  have f19 := f13.k1 K15 (by omega)
  refine oC 20 (v := (.int pi2)) X15 f19 ⟨by decide, by decide⟩ rfl d36_19 rfl ?_
  have f20 := C15.safe (own_lt (by omega)) f14
  refine mS 23 0 X15 (rm_putChar G q16 V18 ⟨by decide, by decide⟩ ⟨by decide, by decide⟩ (Nat.le_of_ble_eq_true rfl) (Nat.le_of_ble_eq_true rfl) (by omega)) (u36 G) (sS (by omega) f20 all0) d36_20 rfl rfl rfl lr (by decide) (aR (by omega) all0) ?_
  rintro _ _ _ _ X21 ⟨rfl, q22, q23⟩ K21 _ C21
  have V24 := q23.as [.int 47, i0, .int ((pi1 >>> ((0 : Int32) &&& 31)).toInt8.toInt32), .int ((pi1 >>> ((8 : Int32) &&& 31)).toInt8.toInt32), .int ((pi2 >>> ((0 : Int32) &&& 31)).toInt8.toInt32), .int ((pi2 >>> ((8 : Int32) &&& 31)).toInt8.toInt32), i0, i0, i0, i0, i0, i0] rfl
  refine oJ 26 3 #[rr pa1, ii 3, ii 6, rr xa1_2, ii 2] X21 d36_23 rfl rfl (by decide) rfl <| oJ 29 3 #[rr pa1, ii 3, ii 6, rr xa1_2, ii 3] X21 d36_26 rfl rfl (by decide) rfl <| og 8 X21 d36_29 (by decide) <| oi 10 X21 d36_8 rfl rfl <| oI 11 X21 d36_10 rfl rfl <| oN 14 X21 d36_11 rfl (tlt (by decide)).2.1 <| oA 15 X21 d36_14 rfl rfl <| oi 17 X21 d36_15 rfl rfl <| oA 18 X21 d36_17 rfl rfl <| oI 19 X21 d36_18 rfl rfl ?_
  have f25 := f19.k1 K21 (by omega)
  refine oC 20 (v := (.int pi3)) X21 f25 ⟨by decide, by decide⟩ rfl d36_19 rfl ?_
  have f26 := C21.safe (own_lt (by omega)) f20
  refine mS 23 0 X21 (rm_putChar G q22 V24 ⟨by decide, by decide⟩ ⟨by decide, by decide⟩ (Nat.le_of_ble_eq_true rfl) (Nat.le_of_ble_eq_true rfl) (by omega)) (u36 G) (sS (by omega) f26 all0) d36_20 rfl rfl rfl lr (by decide) (aR (by omega) all0) ?_
  rintro _ _ _ _ X27 ⟨rfl, q28, q29⟩ K27 _ C27
  have V30 := q29.as [.int 47, i0, .int ((pi1 >>> ((0 : Int32) &&& 31)).toInt8.toInt32), .int ((pi1 >>> ((8 : Int32) &&& 31)).toInt8.toInt32), .int ((pi2 >>> ((0 : Int32) &&& 31)).toInt8.toInt32), .int ((pi2 >>> ((8 : Int32) &&& 31)).toInt8.toInt32), .int ((pi3 >>> ((0 : Int32) &&& 31)).toInt8.toInt32), .int ((pi3 >>> ((8 : Int32) &&& 31)).toInt8.toInt32), i0, i0, i0, i0] rfl
  refine oJ 26 4 #[rr pa1, ii 4, ii 6, rr xa1_2, ii 3] X27 d36_23 rfl rfl (by decide) rfl <| oJ 29 4 #[rr pa1, ii 4, ii 6, rr xa1_2, ii 4] X27 d36_26 rfl rfl (by decide) rfl <| og 8 X27 d36_29 (by decide) <| oi 10 X27 d36_8 rfl rfl <| oI 11 X27 d36_10 rfl rfl <| oN 14 X27 d36_11 rfl (tlt (by decide)).2.1 <| oA 15 X27 d36_14 rfl rfl <| oi 17 X27 d36_15 rfl rfl <| oA 18 X27 d36_17 rfl rfl <| oI 19 X27 d36_18 rfl rfl ?_
  have f31 := f25.k1 K27 (by omega)
  refine oC 20 (v := (.int 47)) X27 f31 ⟨by decide, by decide⟩ rfl d36_19 rfl ?_
  have f32 := C27.safe (own_lt (by omega)) f26
  refine mS 23 0 X27 (rm_putChar G q28 V30 ⟨by decide, by decide⟩ ⟨by decide, by decide⟩ (Nat.le_of_ble_eq_true rfl) (Nat.le_of_ble_eq_true rfl) (by omega)) (u36 G) (sS (by omega) f32 all0) d36_20 rfl rfl rfl lr (by decide) (aR (by omega) all0) ?_
  rintro _ _ _ _ X33 ⟨rfl, q34, q35⟩ K33 _ C33
  have V36 := q35.as [.int 47, i0, .int ((pi1 >>> ((0 : Int32) &&& 31)).toInt8.toInt32), .int ((pi1 >>> ((8 : Int32) &&& 31)).toInt8.toInt32), .int ((pi2 >>> ((0 : Int32) &&& 31)).toInt8.toInt32), .int ((pi2 >>> ((8 : Int32) &&& 31)).toInt8.toInt32), .int ((pi3 >>> ((0 : Int32) &&& 31)).toInt8.toInt32), .int ((pi3 >>> ((8 : Int32) &&& 31)).toInt8.toInt32), .int 47, i0, i0, i0] rfl
  refine oJ 26 5 #[rr pa1, ii 5, ii 6, rr xa1_2, ii 4] X33 d36_23 rfl rfl (by decide) rfl <| oJ 29 5 #[rr pa1, ii 5, ii 6, rr xa1_2, ii 5] X33 d36_26 rfl rfl (by decide) rfl <| og 8 X33 d36_29 (by decide) <| oi 10 X33 d36_8 rfl rfl <| oI 11 X33 d36_10 rfl rfl <| oN 14 X33 d36_11 rfl (tlt (by decide)).2.1 <| oA 15 X33 d36_14 rfl rfl <| oi 17 X33 d36_15 rfl rfl <| oA 18 X33 d36_17 rfl rfl <| oI 19 X33 d36_18 rfl rfl ?_
  have f37 := f31.k1 K33 (by omega)
  refine oC 20 (v := (.int 42)) X33 f37 ⟨by decide, by decide⟩ rfl d36_19 rfl ?_
  have f38 := C33.safe (own_lt (by omega)) f32
  refine mS 23 0 X33 (rm_putChar G q34 V36 ⟨by decide, by decide⟩ ⟨by decide, by decide⟩ (Nat.le_of_ble_eq_true rfl) (Nat.le_of_ble_eq_true rfl) (by omega)) (u36 G) (sS (by omega) f38 all0) d36_20 rfl rfl rfl lr (by decide) (aR (by omega) all0) ?_
  rintro _ _ _ _ X39 ⟨rfl, q40, q41⟩ _ _ C39
  have V42 := q41.as [.int 47, i0, .int ((pi1 >>> ((0 : Int32) &&& 31)).toInt8.toInt32), .int ((pi1 >>> ((8 : Int32) &&& 31)).toInt8.toInt32), .int ((pi2 >>> ((0 : Int32) &&& 31)).toInt8.toInt32), .int ((pi2 >>> ((8 : Int32) &&& 31)).toInt8.toInt32), .int ((pi3 >>> ((0 : Int32) &&& 31)).toInt8.toInt32), .int ((pi3 >>> ((8 : Int32) &&& 31)).toInt8.toInt32), .int 47, i0, .int 42, i0] rfl
  refine oJ 26 6 #[rr pa1, ii 6, ii 6, rr xa1_2, ii 5] X39 d36_23 rfl rfl (by decide) rfl <| oJ 29 6 #[rr pa1, ii 6, ii 6, rr xa1_2, ii 6] X39 d36_26 rfl rfl (by decide) rfl <| og 8 X39 d36_29 (by decide) <| oi 10 X39 d36_8 rfl rfl <| oI 11 X39 d36_10 rfl rfl <| oY 32 X39 d36_11 (by decide) (flt (by decide)).2.1 <| oA 33 X39 d36_32 rfl rfl ?_
  have f43 := C39.safe (own_lt (by omega)) f38
  exact oR X39 d36_33 rfl rfl rfl (by decide) (by decide) (fun _ CC => ⟨xa1_2, xk1_3, rfl, V42, q40, (CC.safe (own_lt (by omega)) f43), by omega⟩)
theorem rm_au192 (G : GL l Z a0 zc fmt kpp) (F0 : av1 Z h0 pa1 pk1 6 [.int 47, .int pi1, .int pi2, .int pi3, .int 47, .int 42]) (bg_pi1 : (255 : Int32) < pi1 ∧ ¬ (65535 : Int32) < pi1) : M5 l Z 3 2 18 40 #[.ref pa1, i0, .int 6] h0 n0 [] [] (Q97 Z pi1 pi2 pi3 h0) := by
  refine mi B5 ef5 (hEW G) fun s X0 hsf0 n0le => ?_
  have l1 := F0.l
  refine oI 1 X0 d5_0 rfl rfl <| nP (aty := .byte) 3 6 X0 (w16 G) d5_1 rfl (by decide) had_byte ?_
  intro _ h1 b1 k1 X1 _ l1 E1 V1 A1 _ S1
  have V2 : av0 Z h1 b1 k1 6 [i0, i0, i0, i0, i0, i0] := V1.pad (pad_rep [] (.int (0 : Int32)) 6)
  refine oV 4 (l' := #[rr pa1, ii 0, ii 6, rr b1, uu, uu]) X1 d5_3 rfl rfl rfl <| oA 5 X1 d5_4 rfl rfl <| oI 6 X1 d5_5 rfl rfl <| oA 7 X1 d5_6 rfl rfl <| oc 8 (v := 0) X1 d5_7 rfl (by decide) <| oI 9 X1 d5_8 rfl rfl ?_
  have f3 := F0.ext E1
  refine mS 12 0 X1 (rm_au188 G f3 V2 A1 bg_pi1 (by omega)) (u2 G) (sS (by omega) S1 all0) d5_9 rfl rfl rfl lr (by decide) (aR (by omega) all0) ?_
  rintro _ _ _ _ X4 ⟨rfl, _, _⟩ K4 _ _
  refine oS 14 (l' := #[rr pa1, ii 0, ii 6, rr b1, ii 1, uu]) X4 d5_12 rfl rfl <| oi 16 X4 d5_14 rfl rfl <| oI 17 X4 d5_16 rfl rfl <| oN 20 X4 d5_17 rfl (feq (by decide)).1 <| oA 21 X4 d5_20 rfl rfl <| oI 22 X4 d5_21 rfl rfl <| oI 23 X4 d5_22 rfl rfl ?_
  have f7 := f3.k1 K4 (by omega)
  refine mS 26 0 X4 (rm_au191 G f7 bg_pi1) (u37 G) all0 d5_23 rfl rfl rfl lr (by decide) all0 ?_
  rintro _ _ _ _ X8 ⟨xa1_9, xk1_10, rfl, q11, q12, q13, _⟩ _ _ _
  refine oU 28 (l' := #[rr pa1, ii 0, ii 6, rr b1, ii 1, rr xa1_9]) X8 d5_26 rfl rfl rfl <| oa 30 X8 d5_28 rfl rfl <| oi 32 X8 d5_30 rfl rfl <| mS 35 0 X8 (rm_getChar G q11 ⟨by decide, by decide⟩ ⟨by decide, by decide⟩ rfl rfl) (u38 G) all0 d5_32 rfl rfl rfl lr (by decide) all0 ?_
  rintro _ _ _ _ X15 rfl K15 _ C15
  refine o_sipush 38 (v := 255) X15 d5_35 rfl (by decide) <| oY 54 X15 d5_38 (by decide) (tlt (by rw [own_gcE bg_pi1]; exact bg_pi1.1)).2.2.1 <| oa 56 X15 d5_54 rfl rfl ?_
  have f16 := q11.k0 K15
  have f17 := q12.keep K15
  have f18 := C15.safe (own_lt (by omega)) q13
  exact oR X15 d5_56 rfl rfl rfl (by decide) (by decide) (fun _ CC => ⟨xa1_9, xk1_10, rfl, f16, f17, (CC.safe (own_lt (by omega)) f18), by omega⟩)
theorem rm_au193 (G : GL l Z a0 zc fmt kpp) (F0 : av0 Z h0 pa1 pk1 12 ps_pa1) : M7 l Z 0 0 0 0 #[.ref pa1, .int 6] h0 n0 [] [] (Q16 Z  h0) := by
  refine mi B7 ef1 (hEW G) fun s X0 hsf0 n0le => ?_
  have := F0.l
  refine oI 1 X0 d7_0 rfl rfl <| oA 2 X0 d7_1 rfl rfl <| oL 3 X0 F0 d7_2 rfl <| o_isub 4 (v := (-6)) X0 d7_3 rfl (by decide) <| ob 6 (v := 31) X0 d7_4 rfl (by decide) <| o_iushr 7 (v := 1) X0 d7_6 rfl (by decide) <| o_i2b 8 (v := 1) X0 d7_7 rfl (by decide) ?_
  exact o_nret (y := (1 : Int32)) (t := .byte) X0 d7_8 rfl (by decide) (by simp) (by decide) (by decide) (fun _ CC => rfl)
def Q98 (Z : State) (b1 : Addr) (b2 b3 b4 : Int32) (h0 : Heap) (v : Option Value) (h : Heap) (vm : Vm) : Prop := ∃ (xa1 : Addr) (xk1 : ClassId), v = none ∧ ex1 Z h b1 ∧ fd1 Z h b1 (.int 1) ∧ fd0 Z h b1 (.ref xa1) ∧ av0 Z h xa1 xk1 12 [.int 47, i0, .int ((b2 >>> ((0 : Int32) &&& 31)).toInt8.toInt32), .int ((b2 >>> ((8 : Int32) &&& 31)).toInt8.toInt32), .int ((b3 >>> ((0 : Int32) &&& 31)).toInt8.toInt32), .int ((b3 >>> ((8 : Int32) &&& 31)).toInt8.toInt32), .int ((b4 >>> ((0 : Int32) &&& 31)).toInt8.toInt32), .int ((b4 >>> ((8 : Int32) &&& 31)).toInt8.toInt32), .int 47, i0, .int 42, i0] ∧ ex0 Z h xa1 ∧ Safe Z EL0 vm h xa1 ∧ h0.size ≤ xa1 ∧ h.size > xa1
theorem rm_au194 (G : GL l Z a0 zc fmt kpp) (F0 : ex1 Z h0 pa1) (F1 : fd1 Z h0 pa1 (.int 0)) (F2 : fd0 Z h0 pa1 .null) (F3 : av1 Z h0 pa2 pk1 6 [.int 47, .int pi1, .int pi2, .int pi3, .int 47, .int 42]) (bg_pi1 : (255 : Int32) < pi1 ∧ ¬ (65535 : Int32) < pi1) (ne : NE pa1 pa2 ∧ n0 ≤ pa1) : M4 l Z 4 2 18 57 #[.ref pa1, .ref pa2, i0, .int 6, .null] h0 n0 [pa1] [pa1] (Q98 Z pa1 pi1 pi2 pi3 h0) := by
  refine mi B4 ef4 (hEW G) fun s X0 hsf0 n0le => ?_
  have := F0.l
  have := F3.l
  have sf_pa1 := hsf0 pa1 (by simp)
  refine oA 1 X0 d4_0 rfl rfl <| o_initO 4 (W := 0) X0 (w12 G) (w13 G) (w14 G) rfl (by decide) (Nat.le_of_eq rfl) (by decide) d4_1 rfl ?_
  intro _ X2
  refine oI 5 X2 d4_4 rfl rfl <| oy 27 X2 d4_5 (by decide) ((if0 _ _).trans (feq (by decide)).2) <| oG 30 X2 (w23 G) Via.refl ((sg5 G).ext X2.old.2) d4_27 rfl ?_
  intro _ X4
  refine on 33 X4 d4_30 rfl ((if0 _ _).trans (feq (hzc G)).1) <| oA 34 X4 d4_33 rfl rfl <| oI 35 X4 d4_34 rfl rfl <| oI 36 X4 d4_35 rfl rfl <| mS 39 0 X4 (rm_au192 G F3 bg_pi1) (u3 G) all0 d4_36 rfl rfl rfl lr (by decide) all0 ?_
  rintro _ _ _ _ X5 ⟨xa1_6, xk1_7, rfl, q8, q9, q10, _⟩ K5 _ C5
  refine oU 41 (l' := #[rr pa1, rr pa2, ii 0, ii 6, .val .null, rr xa1_6]) X5 d4_39 rfl rfl rfl <| oA 42 X5 d4_41 rfl rfl <| oa 44 X5 d4_42 rfl rfl <| oI 45 X5 d4_44 rfl rfl <| mS 48 1 X5 (rm_au193 G q8) (u4 G) all0 d4_45 rfl rfl rfl lr (by decide) all0 ?_
  rintro _ _ _ _ X12 rfl K12 _ C12
  have f13 := (F1.k0 K5).k0 K12
  have f14 := (F0.keep K5).keep K12
  have f16 := C12.safe (own_lt (by omega)) (C5.safe (own_lt (by omega)) sf_pa1)
  refine oP 51 (v' := (.int 1)) X12 (w22 G) Via.refl f13 f14 (Or.inr ⟨(w18 G), rfl, rfl⟩) (w2 G) fd_1 rfl rfl d4_48 rfl (by omega) (Or.inl (by simp)) f16 ?_
  intro _ _ X15 W15 C15
  have := W15.size
  have f17 := f13.same W15
  refine oA 52 X15 d4_51 rfl rfl <| oa 54 X15 d4_52 rfl rfl ?_
  have f18 := ((F2.k0 K5).k0 K12).other W15 (Or.inr (sn1 G))
  have f19 := f14.wr W15
  have f21 := C15.safe (own_lt (by omega)) f16
  refine oP 57 (v' := (.ref xa1_6)) X15 (w21 G) Via.refl f18 f19 (Or.inr ⟨(w17 G), rfl, rfl⟩) (w2 G) fd_0 rfl rfl d4_54 rfl (by omega) (Or.inl (by simp)) f21 ?_
  intro _ _ X20 W20 C20
  have := W20.size
  have f22 := f18.same W20
  have f23 := f19.wr W20
  have f24 := f17.other W20 (Or.inr (sn0 G))
  have f25 := ((q8.k0 K12).oth W15 (by omega)).oth W20 (by omega)
  have f26 := ((q9.keep K12).wr W15).wr W20
  have f27 := C20.safe (own_lt (by omega)) (C15.safe (own_lt (by omega)) (C12.safe (own_lt (by omega)) q10))
  exact oz X20 d4_57 rfl (by decide) (by decide) (fun _ CC => ⟨xa1_6, xk1_7, rfl, f23, f24, f22, f25, f26, (CC.safe (own_lt (by omega)) f27), by omega⟩)
theorem rm_au195 (G : GL l Z a0 zc fmt kpp) (F0 : ex1 Z h0 pa1) (F1 : fd1 Z h0 pa1 (.int 0)) (F2 : fd0 Z h0 pa1 .null) (F3 : av1 Z h0 pa2 pk1 6 [.int 47, .int pi1, .int pi2, .int pi3, .int 47, .int 42]) (bg_pi1 : (255 : Int32) < pi1 ∧ ¬ (65535 : Int32) < pi1) (ne : NE pa1 pa2 ∧ n0 ≤ pa1) : M3 l Z 5 2 18 74 #[.ref pa1, .ref pa2] h0 n0 [pa1] [pa1] (Q98 Z pa1 pi1 pi2 pi3 h0) := by
  refine mi B3 ef3 (hEW G) fun s X0 hsf0 n0le => ?_
  have := F0.l
  have := F3.l
  have sf_pa1 := hsf0 pa1 (by simp)
  refine oA 1 X0 d3_0 rfl rfl <| oA 2 X0 d3_1 rfl rfl <| oc 3 (v := 0) X0 d3_2 rfl (by decide) <| oA 4 X0 d3_3 rfl rfl <| oL 5 X0 F3 d3_4 rfl <| o_aconstNull 6 X0 d3_5 rfl <| mP 9 0 X0 (rm_au194 G F0 F1 F2 F3 bg_pi1 (by omega)) (u0 G) (sS (by omega) sf_pa1 all0) d3_6 rfl rfl rfl lr (by decide) (aI (by omega) (by simp) all0) ?_
  rintro _ _ _ _ X1 ⟨xa1_2, xk1_3, rfl, q4, q5, q6, q7, q8, q9, _⟩ _ _ _
  exact oz X1 d3_9 rfl (by decide) (by decide) (fun _ CC => ⟨xa1_2, xk1_3, rfl, q4, q5, q6, q7, q8, (CC.safe (own_lt (by omega)) q9), by omega⟩)
theorem rm_au196 (G : GL l Z a0 zc fmt kpp) (F0 : ex1 Z h0 pa1) (F1 : fd1 Z h0 pa1 (.int 1)) (F2 : fd0 Z h0 pa1 (.ref pa2)) (F3 : av0 Z h0 pa2 pk1 8 ps_pa2) : M13 l Z 1 0 0 13 #[.ref pa1] h0 n0 [] [] (Q21 Z  h0) := by
  refine mi B13 ef7 (hEW G) fun s X0 hsf0 n0le => ?_
  have := F0.l
  have := F3.l
  refine oA 1 X0 d13_0 rfl rfl <| oF 4 X0 (w21 G) Via.refl F2 d13_1 rfl ?_
  intro _ X2
  refine oL 5 X2 F3 d13_4 rfl <| oA 6 X2 d13_5 rfl rfl <| mV 9 1 X2 F0 (rm_au57 G F1) (u7 G) all0 d13_6 rfl rfl rfl lr (by decide) all0 ?_
  rintro _ _ _ _ X3 rfl _ _ _
  refine o_ishr 10 (v := 4) X3 d13_9 rfl (by decide) ?_
  exact o_iret X3 d13_10 rfl (by decide) (by decide) (fun _ CC => rfl)
def Q99 (Z : State) (b1 : Addr) (b2 : ClassId) (b3 b4 b5 b6 b7 b8 b9 b10 : Int32) (h0 : Heap) (v : Option Value) (h : Heap) (vm : Vm) : Prop := v = none ∧ av0 Z h b1 b2 32 [.int b3, .int b4, .int b5, .int b6, .int b7, .int b8, .int b9, .int b10, i0, i0, i0, i0, i0, i0, i0, i0, i0, i0, i0, i0, i0, i0, i0, i0, i0, i0, i0, i0, i0, i0, i0, i0] ∧ ex0 Z h b1
theorem rm_au197 (G : GL l Z a0 zc fmt kpp) (F0 : ex1 Z h0 pa1) (F1 : fd1 Z h0 pa1 (.int 1)) (F2 : fd0 Z h0 pa1 (.ref pa3)) (F3 : av0 Z h0 pa2 pk1 32 [i0, i0, i0, i0, i0, i0, i0, i0, i0, i0, i0, i0, i0, i0, i0, i0, i0, i0, i0, i0, i0, i0, i0, i0, i0, i0, i0, i0, i0, i0, i0, i0]) (F4 : ex0 Z h0 pa2) (F5 : av0 Z h0 pa3 pk2 8 [.int pi1, .int pi2, .int pi3, .int pi4, .int pi5, .int pi6, .int pi7, .int pi8]) (ne : NE pa1 pa2 ∧ NE pa2 pa3 ∧ n0 ≤ pa2) : M18 l Z 1 0 0 40 #[.ref pa1, .ref pa2, i0, .int 1] h0 n0 [pa2] [pa2] (Q99 Z pa2 pk1 pi1 pi2 pi3 pi4 pi5 pi6 pi7 pi8 h0) := by
  refine mi B18 ef11 (hEW G) fun s X0 hsf0 n0le => ?_
  have := F0.l
  have := F3.l
  have := F5.l
  have sf_pa2 := hsf0 pa2 (by simp)
  refine oA 1 X0 d18_0 rfl rfl <| mV 4 0 X0 F0 (rm_au57 G F1) (u7 G) all0 d18_1 rfl rfl rfl lr (by decide) all0 ?_
  rintro _ _ _ _ X1 rfl K1 _ C1
  refine oI 5 X1 d18_4 rfl rfl <| oN 8 X1 d18_5 rfl (teq (by decide)).2 <| oA 9 X1 d18_8 rfl rfl ?_
  have f2 := F2.k0 K1
  refine oF 12 X1 (w21 G) Via.refl f2 d18_9 rfl ?_
  intro _ X4
  refine oc 13 (v := 0) X4 d18_12 rfl (by decide) <| oA 14 X4 d18_13 rfl rfl <| oI 15 X4 d18_14 rfl rfl <| oI 16 X4 d18_15 rfl rfl <| o_ishl 17 (v := 0) X4 d18_16 rfl (by decide) <| oA 18 X4 d18_17 rfl rfl <| oF 21 X4 (w21 G) Via.refl f2 d18_18 rfl ?_
  intro _ X6
  have f7 := F5.k0 K1
  refine oL 22 X6 f7 d18_21 rfl ?_
  have f8 := F3.k0 K1
  have f9 := C1.safe (own_lt (by omega)) sf_pa2
  refine o_cp 25 (us := [.int pi1, .int pi2, .int pi3, .int pi4, .int pi5, .int pi6, .int pi7, .int pi8]) (vr := [.int pi1, .int pi2, .int pi3, .int pi4, .int pi5, .int pi6, .int pi7, .int pi8, i0, i0, i0, i0, i0, i0, i0, i0, i0, i0, i0, i0, i0, i0, i0, i0, i0, i0, i0, i0, i0, i0, i0, i0]) (W := 0) X6 (w101 G) (w104 G) (w102 G) (w103 G) f7 f8 (Or.inl ⟨rfl, rfl⟩) (by decide) (by decide) (by decide) (by decide) (by decide) rfl (Nat.le_of_ble_eq_true rfl) rfl d18_22 rfl rfl (by decide) (Nat.le_of_eq rfl) (by decide) (by omega) (Or.inl (by simp)) f9 ?_
  intro _ _ X10 K10 _ V10
  have := K10.1
  refine og 43 X10 d18_25 (by decide) ?_
  have f11 := (F4.keep K1).keep K10
  exact oz X10 d18_43 rfl (by decide) (by decide) (fun _ CC => ⟨rfl, V10, f11⟩)
def Q100 (Z : State) (b1 : Addr) (b2 b3 b4 b5 b6 b7 b8 b9 : Int32) (h0 : Heap) (v : Option Value) (h : Heap) (vm : Vm) : Prop := ∃ (xa1 : Addr) (xk1 : ClassId), v = none ∧ ex3 Z h b1 ∧ fd6 Z h b1 (.int 1) ∧ fd7 Z h b1 (.int 0) ∧ fd8 Z h b1 (.int 0) ∧ fd5 Z h b1 (.ref xa1) ∧ av0 Z h xa1 xk1 32 [.int b2, .int b3, .int b4, .int b5, .int b6, .int b7, .int b8, .int b9, i0, i0, i0, i0, i0, i0, i0, i0, i0, i0, i0, i0, i0, i0, i0, i0, i0, i0, i0, i0, i0, i0, i0, i0] ∧ ex0 Z h xa1 ∧ Safe Z EL0 vm h xa1 ∧ h0.size ≤ xa1 ∧ h.size > xa1
theorem rm_au198 (G : GL l Z a0 zc fmt kpp) (F0 : ex3 Z h0 pa1) (F1 : fd6 Z h0 pa1 (.int 0)) (F2 : fd7 Z h0 pa1 (.int 0)) (F3 : fd8 Z h0 pa1 (.int 0)) (F4 : fd5 Z h0 pa1 (.ref pa3)) (F5 : ex1 Z h0 pa2) (F6 : fd1 Z h0 pa2 (.int 1)) (F7 : fd0 Z h0 pa2 (.ref pa4)) (F8 : av0 Z h0 pa3 pk1 16 ps_pa3) (F9 : av0 Z h0 pa4 pk2 8 [.int pi1, .int pi2, .int pi3, .int pi4, .int pi5, .int pi6, .int pi7, .int pi8]) (ne : NE pa1 pa2 ∧ NE pa1 pa3 ∧ NE pa1 pa4 ∧ n0 ≤ pa1) : M16 l Z 7 1 32 102 #[.ref pa1, i0, .ref pa2] h0 n0 [pa1] [] (Q100 Z pa1 pi1 pi2 pi3 pi4 pi5 pi6 pi7 pi8 h0) := by
  refine mi B16 ef10 (hEW G) fun s X0 hsf0 n0le => ?_
  have := F0.l
  have := F5.l
  have := F8.l
  have := F9.l
  refine oA 1 X0 d16_0 rfl rfl <| oA 2 X0 d16_1 rfl rfl <| mV 5 0 X0 F0 (rm_au68 G F0 F1 F2 F3 F4 F5 F6 F8 (by omega)) (u11 G) all0 d16_2 rfl rfl rfl lr (by decide) (aI (by omega) (by simp) all0) ?_
  rintro _ _ _ _ X1 ⟨xa1_2, xk1_3, rfl, q4, q5, q6, q7, q8, q9, q10, q11, _⟩ K1 _ _
  refine oA 6 X1 d16_5 rfl rfl <| oA 7 X1 d16_6 rfl rfl <| oF 10 X1 (w54 G) Via.refl q8 d16_7 rfl ?_
  intro _ X14
  refine oI 11 X14 d16_10 rfl rfl <| oA 12 X14 d16_11 rfl rfl <| oF 15 X14 (w56 G) Via.refl q5 d16_12 rfl ?_
  intro _ X16
  have f17 := F5.keep K1
  have f18 := F6.k1 K1 (by omega)
  have f19 := F7.k1 K1 (by omega)
  have f20 := F9.k1 K1 (by omega)
  refine mV 18 0 X16 f17 (rm_au197 G f17 f18 f19 q9 q10 f20 (by omega)) (u12 G) (sS (by omega) q11 all0) d16_15 rfl rfl rfl lr (by decide) (aR (by omega) all0) ?_
  rintro _ _ _ _ X21 ⟨rfl, q22, q23⟩ K21 _ C21
  have f24 := q4.keep K21
  have f25 := q5.k1 K21 (by omega)
  have f26 := q6.k1 K21 (by omega)
  have f27 := q7.k1 K21 (by omega)
  have f28 := q8.k1 K21 (by omega)
  have f29 := C21.safe (own_lt (by omega)) q11
  exact oz X21 d16_18 rfl (by decide) (by decide) (fun _ CC => ⟨xa1_2, xk1_3, rfl, f24, f25, f26, f27, f28, q22, q23, (CC.safe (own_lt (by omega)) f29), by omega⟩)
def Q101 (Z : State) (b1 : Addr) (b2 b3 b4 b5 b6 b7 b8 b9 : Int32) (h0 : Heap) (v : Option Value) (h : Heap) (vm : Vm) : Prop := ∃ (xa1 : Addr) (xk1 : ClassId), v = some (.ref b1) ∧ ex3 Z h b1 ∧ fd6 Z h b1 (.int 1) ∧ fd7 Z h b1 (.int 4) ∧ fd8 Z h b1 (.int 0) ∧ fd5 Z h b1 (.ref xa1) ∧ av0 Z h xa1 xk1 32 [.int b2, .int b3, .int b4, .int b5, .int b6, .int b7, .int b8, .int b9, i0, i0, i0, i0, i0, i0, i0, i0, i0, i0, i0, i0, i0, i0, i0, i0, i0, i0, i0, i0, i0, i0, i0, i0] ∧ ex0 Z h xa1 ∧ Safe Z EL0 vm h xa1 ∧ h0.size ≤ xa1 ∧ h.size > xa1
theorem rm_au199 (G : GL l Z a0 zc fmt kpp) (F0 : ex3 Z h0 pa1) (F1 : fd6 Z h0 pa1 (.int 0)) (F2 : fd7 Z h0 pa1 (.int 0)) (F3 : fd8 Z h0 pa1 (.int 0)) (F4 : fd5 Z h0 pa1 (.ref pa3)) (F5 : ex1 Z h0 pa2) (F6 : fd1 Z h0 pa2 (.int 1)) (F7 : fd0 Z h0 pa2 (.ref pa4)) (F8 : av0 Z h0 pa3 pk1 16 ps_pa3) (F9 : av0 Z h0 pa4 pk2 8 [.int pi1, .int pi2, .int pi3, .int pi4, .int pi5, .int pi6, .int pi7, .int pi8]) (ne : NE pa1 pa2 ∧ NE pa1 pa3 ∧ NE pa1 pa4 ∧ n0 ≤ pa1) : M12 l Z 8 1 32 116 #[.ref pa1, .ref pa2] h0 n0 [pa1] [] (Q101 Z pa1 pi1 pi2 pi3 pi4 pi5 pi6 pi7 pi8 h0) := by
  refine mi B12 ef8 (hEW G) fun s X0 hsf0 n0le => ?_
  have := F0.l
  have := F5.l
  have := F8.l
  have := F9.l
  refine oA 1 X0 d12_0 rfl rfl <| ifnonnullYesJ 9 X0 d12_1 (by decide) <| oA 10 X0 d12_9 rfl rfl <| mV 13 0 X0 F5 (rm_au196 G F5 F6 F7 F9) (u8 G) all0 d12_10 rfl rfl rfl lr (by decide) all0 ?_
  rintro _ _ _ _ X1 rfl K1 _ _
  refine oT 14 (l' := #[rr pa1, rr pa2, ii 4]) X1 d12_13 rfl rfl <| oA 15 X1 d12_14 rfl rfl <| oA 16 X1 d12_15 rfl rfl ?_
  have f2 := F2.k0 K1
  refine oF 19 X1 (w78 G) Via.refl f2 d12_16 rfl ?_
  intro _ X4
  refine oI 20 X4 d12_19 rfl rfl <| o_iadd 21 (v := 4) X4 d12_20 rfl (by decide) ?_
  have f5 := F1.k0 K1
  have f6 := F4.k0 K1
  have f7 := F8.k0 K1
  have f8 := F0.keep K1
  refine mV 24 0 X4 f8 (rm_au11 G f5 f6 f7 (by decide)) (u9 G) all0 d12_21 rfl rfl rfl lr (by decide) all0 ?_
  rintro _ _ _ _ X9 rfl K9 _ _
  refine oA 25 X9 d12_24 rfl rfl <| oA 26 X9 d12_25 rfl rfl ?_
  have f10 := f2.k0 K9
  refine oF 29 X9 (w78 G) Via.refl f10 d12_26 rfl ?_
  intro _ X12
  refine oA 30 X12 d12_29 rfl rfl ?_
  have f13 := f8.keep K9
  have f14 := f5.k0 K9
  have f15 := (F3.k0 K1).k0 K9
  have f16 := f6.k0 K9
  have f17 := (F5.keep K1).keep K9
  have f18 := (F6.k0 K1).k0 K9
  have f19 := (F7.k0 K1).k0 K9
  have f20 := f7.k0 K9
  have f21 := (F9.k0 K1).k0 K9
  refine mV 33 0 X12 f13 (rm_au198 G f13 f14 f10 f15 f16 f17 f18 f19 f20 f21 (by omega)) (u13 G) all0 d12_30 rfl rfl rfl lr (by decide) (aI (by omega) (by simp) all0) ?_
  rintro _ _ _ _ X22 ⟨xa1_23, xk1_24, rfl, q25, q26, q27, q28, q29, q30, q31, q32, _⟩ _ _ _
  refine oA 34 X22 d12_33 rfl rfl <| oD 35 X22 d12_34 rfl rfl <| oF 38 X22 (w78 G) Via.refl q27 d12_35 rfl ?_
  intro _ X35
  refine oI 39 X35 d12_38 rfl rfl <| o_iadd 40 (v := 4) X35 d12_39 rfl (by decide) <| oP 43 (v' := (.int 4)) X35 (w78 G) Via.refl q27 q25 (Or.inl (w79 G)) (w41 G) fd_4 rfl rfl d12_40 rfl (by omega) (Or.inl (by simp)) (sx X35 q25 nc1) ?_
  intro _ _ X36 W36 C36
  have := W36.size
  have f37 := q27.same W36
  refine oA 44 X36 d12_43 rfl rfl ?_
  have f38 := q25.wr W36
  have f39 := q26.other W36 (Or.inr (sn8 G))
  have f40 := q28.other W36 (Or.inr (sn9 G))
  have f41 := q29.other W36 (Or.inr (sn10 G))
  have f42 := q30.oth W36 (by omega)
  have f43 := q31.wr W36
  have f44 := C36.safe (own_lt (by omega)) q32
  exact oR X36 d12_44 rfl rfl rfl (by decide) (by decide) (fun _ CC => ⟨xa1_23, xk1_24, rfl, f38, f39, f37, f40, f41, f42, f43, (CC.safe (own_lt (by omega)) f44), by omega⟩)
theorem rm_au200 (G : GL l Z a0 zc fmt kpp) (F0 : ex3 Z h0 pa1) (F1 : fd6 Z h0 pa1 (.int 0)) (F2 : fd7 Z h0 pa1 (.int 0)) (F3 : fd8 Z h0 pa1 (.int 0)) (F4 : fd5 Z h0 pa1 (.ref pa3)) (F5 : ex1 Z h0 pa2) (F6 : fd1 Z h0 pa2 (.int 1)) (F7 : fd0 Z h0 pa2 (.ref pa4)) (F8 : av0 Z h0 pa3 pk1 16 ps_pa3) (F9 : av0 Z h0 pa4 pk2 8 [.int pi1, .int pi2, .int pi3, .int pi4, .int pi5, .int pi6, .int pi7, .int pi8]) (ne : NE pa1 pa2 ∧ NE pa1 pa3 ∧ NE pa1 pa4 ∧ n0 ≤ pa1) : M11 l Z 9 1 32 130 #[.ref pa1, .ref pa2] h0 n0 [pa1] [] (Q101 Z pa1 pi1 pi2 pi3 pi4 pi5 pi6 pi7 pi8 h0) := by
  refine mi B11 ef3 (hEW G) fun s X0 hsf0 n0le => ?_
  have := F0.l
  have := F5.l
  have := F8.l
  have := F9.l
  refine oA 1 X0 d11_0 rfl rfl <| oA 2 X0 d11_1 rfl rfl <| mU 5 0 X0 F0 (rm_au199 G F0 F1 F2 F3 F4 F5 F6 F7 F8 F9 (by omega)) (u14 G) all0 d11_2 rfl rfl rfl lr (by decide) (aI (by omega) (by simp) all0) ?_
  rintro _ _ _ _ X1 ⟨xa1_2, xk1_3, rfl, q4, q5, q6, q7, q8, q9, q10, q11, _⟩ _ _ _
  refine o_pop 6 X1 d11_5 rfl rfl <| oA 7 X1 d11_6 rfl rfl ?_
  exact oR X1 d11_7 rfl rfl rfl (by decide) (by decide) (fun _ CC => ⟨xa1_2, xk1_3, rfl, q4, q5, q6, q7, q8, q9, q10, (CC.safe (own_lt (by omega)) q11), by omega⟩)
def Q102 (Z : State) (b1 : Addr) (b2 : ClassId) (b3 b4 b5 b6 b7 b8 b9 b10 : Int32) (h0 : Heap) (v : Option Value) (h : Heap) (vm : Vm) : Prop := v = none ∧ av0 Z h b1 b2 32 [.int b3, .int b4, .int b5, .int b6, .int b7, .int b8, .int b9, .int b10, .int 47, i0, .int 42, i0, i0, i0, i0, i0, i0, i0, i0, i0, i0, i0, i0, i0, i0, i0, i0, i0, i0, i0, i0, i0] ∧ ex0 Z h b1
theorem rm_au201 (G : GL l Z a0 zc fmt kpp) (F0 : av0 Z h0 pa1 pk1 2 [.int 47, .int 42]) (F1 : av0 Z h0 pa2 pk2 32 [.int pi1, .int pi2, .int pi3, .int pi4, .int pi5, .int pi6, .int pi7, .int pi8, i0, i0, i0, i0, i0, i0, i0, i0, i0, i0, i0, i0, i0, i0, i0, i0, i0, i0, i0, i0, i0, i0, i0, i0]) (F2 : ex0 Z h0 pa2) (ne : NE pa1 pa2 ∧ n0 ≤ pa2) : M41 l Z 3 0 0 43 #[.ref pa1, i0, .ref pa2, .int 4, .int 2] h0 n0 [pa2] [pa2] (Q102 Z pa2 pk2 pi1 pi2 pi3 pi4 pi5 pi6 pi7 pi8 h0) := by
  refine mi B41 ef19 (hEW G) fun s X0 hsf0 n0le => ?_
  have := F0.l
  have := F1.l
  have sf_pa2 := hsf0 pa2 (by simp)
  refine oI 1 X0 d41_0 rfl rfl <| oi 3 X0 d41_1 rfl rfl <| oA 4 X0 d41_3 rfl rfl <| mS 7 0 X0 (rm_au64 G F1 (by decide) (by decide)) (u44 G) all0 d41_4 rfl rfl rfl lr (by decide) all0 ?_
  rintro _ _ _ _ X1 rfl K1 _ C1
  refine oc 8 (v := 0) X1 d41_7 rfl (by decide) <| oS 10 (l' := #[rr pa1, ii 0, rr pa2, ii 4, ii 2, ii 0]) X1 d41_8 rfl rfl <| oi 12 X1 d41_10 rfl rfl <| oi 14 X1 d41_12 rfl rfl <| oN 17 X1 d41_14 rfl (tlt (by decide)).2.1 <| oA 18 X1 d41_17 rfl rfl <| oI 19 X1 d41_18 rfl rfl <| oJ 22 5 #[rr pa1, ii 0, rr pa2, ii 5, ii 2, ii 0] X1 d41_19 rfl rfl (by decide) rfl <| oA 23 X1 d41_22 rfl rfl <| oI 24 X1 d41_23 rfl rfl <| oJ 27 1 #[rr pa1, ii 1, rr pa2, ii 5, ii 2, ii 0] X1 d41_24 rfl rfl (by decide) rfl ?_
  have f2 := F0.k0 K1
  refine oB 28 (v := (.int 47)) X1 f2 ⟨by decide, by decide⟩ rfl d41_27 rfl <| o_sipush 31 (v := 255) X1 d41_28 rfl (by decide) <| o_iand 32 (v := 47) X1 d41_31 rfl (by decide) ?_
  have f3 := F2.keep K1
  have f4 := F1.k0 K1
  have f5 := C1.safe (own_lt (by omega)) sf_pa2
  refine mS 35 0 X1 (rm_putChar G f3 f4 ⟨by decide, by decide⟩ ⟨by decide, by decide⟩ (Nat.le_of_ble_eq_true rfl) (Nat.le_of_ble_eq_true rfl) (by omega)) (u36 G) (sS (by omega) f5 all0) d41_32 rfl rfl rfl lr (by decide) (aI (by omega) (by simp) all0) ?_
  rintro _ _ _ _ X6 ⟨rfl, q7, q8⟩ K6 _ C6
  have V9 := q8.as [.int pi1, .int pi2, .int pi3, .int pi4, .int pi5, .int pi6, .int pi7, .int pi8, .int 47, i0, i0, i0, i0, i0, i0, i0, i0, i0, i0, i0, i0, i0, i0, i0, i0, i0, i0, i0, i0, i0, i0, i0] rfl
  refine oJ 38 1 #[rr pa1, ii 1, rr pa2, ii 5, ii 2, ii 1] X6 d41_35 rfl rfl (by decide) rfl <| og 10 X6 d41_38 (by decide) <| oi 12 X6 d41_10 rfl rfl <| oi 14 X6 d41_12 rfl rfl <| oN 17 X6 d41_14 rfl (tlt (by decide)).2.1 <| oA 18 X6 d41_17 rfl rfl <| oI 19 X6 d41_18 rfl rfl <| oJ 22 6 #[rr pa1, ii 1, rr pa2, ii 6, ii 2, ii 1] X6 d41_19 rfl rfl (by decide) rfl <| oA 23 X6 d41_22 rfl rfl <| oI 24 X6 d41_23 rfl rfl <| oJ 27 2 #[rr pa1, ii 2, rr pa2, ii 6, ii 2, ii 1] X6 d41_24 rfl rfl (by decide) rfl ?_
  have f10 := f2.k1 K6 (by omega)
  refine oB 28 (v := (.int 42)) X6 f10 ⟨by decide, by decide⟩ rfl d41_27 rfl <| o_sipush 31 (v := 255) X6 d41_28 rfl (by decide) <| o_iand 32 (v := 42) X6 d41_31 rfl (by decide) ?_
  have f11 := C6.safe (own_lt (by omega)) f5
  refine mS 35 0 X6 (rm_putChar G q7 V9 ⟨by decide, by decide⟩ ⟨by decide, by decide⟩ (Nat.le_of_ble_eq_true rfl) (Nat.le_of_ble_eq_true rfl) (by omega)) (u36 G) (sS (by omega) f11 all0) d41_32 rfl rfl rfl lr (by decide) (aI (by omega) (by simp) all0) ?_
  rintro _ _ _ _ X12 ⟨rfl, q13, q14⟩ _ _ _
  have V15 := q14.as [.int pi1, .int pi2, .int pi3, .int pi4, .int pi5, .int pi6, .int pi7, .int pi8, .int 47, i0, .int 42, i0, i0, i0, i0, i0, i0, i0, i0, i0, i0, i0, i0, i0, i0, i0, i0, i0, i0, i0, i0, i0] rfl
  refine oJ 38 2 #[rr pa1, ii 2, rr pa2, ii 6, ii 2, ii 2] X12 d41_35 rfl rfl (by decide) rfl <| og 10 X12 d41_38 (by decide) <| oi 12 X12 d41_10 rfl rfl <| oi 14 X12 d41_12 rfl rfl <| oY 41 X12 d41_14 (by decide) (flt (by decide)).2.1 ?_
  exact oz X12 d41_41 rfl (by decide) (by decide) (fun _ CC => ⟨rfl, V15, q13⟩)
theorem rm_au202 (G : GL l Z a0 zc fmt kpp) (F0 : av0 Z h0 pa1 pk1 2 [.int 47, .int 42]) (F1 : av0 Z h0 pa2 pk2 32 [.int pi1, .int pi2, .int pi3, .int pi4, .int pi5, .int pi6, .int pi7, .int pi8, i0, i0, i0, i0, i0, i0, i0, i0, i0, i0, i0, i0, i0, i0, i0, i0, i0, i0, i0, i0, i0, i0, i0, i0]) (F2 : ex0 Z h0 pa2) (ne : NE pa1 pa2 ∧ n0 ≤ pa2) : M40 l Z 4 0 0 60 #[.ref pa1, i0, .ref pa2, .int 4, .int 2] h0 n0 [pa2] [pa2] (Q102 Z pa2 pk2 pi1 pi2 pi3 pi4 pi5 pi6 pi7 pi8 h0) := by
  refine mi B40 ef18 (hEW G) fun s X0 hsf0 n0le => ?_
  have := F0.l
  have := F1.l
  have sf_pa2 := hsf0 pa2 (by simp)
  refine oA 1 X0 d40_0 rfl rfl <| oI 2 X0 d40_1 rfl rfl <| oA 3 X0 d40_2 rfl rfl <| oI 4 X0 d40_3 rfl rfl <| oi 6 X0 d40_4 rfl rfl <| mS 9 0 X0 (rm_au201 G F0 F1 F2 (by omega)) (u45 G) (sS (by omega) sf_pa2 all0) d40_6 rfl rfl rfl lr (by decide) (aI (by omega) (by simp) all0) ?_
  rintro _ _ _ _ X1 ⟨rfl, q2, q3⟩ _ _ _
  exact oz X1 d40_9 rfl (by decide) (by decide) (fun _ CC => ⟨rfl, q2, q3⟩)
theorem rm_au203 (G : GL l Z a0 zc fmt kpp) (F0 : ex1 Z h0 pa1) (F1 : fd1 Z h0 pa1 (.int 0)) (F2 : fd0 Z h0 pa1 (.ref pa3)) (F3 : av0 Z h0 pa2 pk1 32 [.int pi1, .int pi2, .int pi3, .int pi4, .int pi5, .int pi6, .int pi7, .int pi8, i0, i0, i0, i0, i0, i0, i0, i0, i0, i0, i0, i0, i0, i0, i0, i0, i0, i0, i0, i0, i0, i0, i0, i0]) (F4 : ex0 Z h0 pa2) (F5 : av0 Z h0 pa3 pk2 2 [.int 47, .int 42]) (ne : NE pa1 pa2 ∧ NE pa2 pa3 ∧ n0 ≤ pa2) : M18 l Z 5 0 0 76 #[.ref pa1, .ref pa2, .int 4, .int 1] h0 n0 [pa2] [pa2] (Q102 Z pa2 pk1 pi1 pi2 pi3 pi4 pi5 pi6 pi7 pi8 h0) := by
  refine mi B18 ef11 (hEW G) fun s X0 hsf0 n0le => ?_
  have := F0.l
  have := F3.l
  have := F5.l
  have sf_pa2 := hsf0 pa2 (by simp)
  refine oA 1 X0 d18_0 rfl rfl <| mV 4 0 X0 F0 (rm_au9 G F1) (u7 G) all0 d18_1 rfl rfl rfl lr (by decide) all0 ?_
  rintro _ _ _ _ X1 rfl K1 _ C1
  refine oI 5 X1 d18_4 rfl rfl <| oY 28 X1 d18_5 (by decide) (feq (by decide)).2 <| oA 29 X1 d18_28 rfl rfl ?_
  have f2 := F2.k0 K1
  refine oF 32 X1 (w21 G) Via.refl f2 d18_29 rfl ?_
  intro _ X4
  refine oc 33 (v := 0) X4 d18_32 rfl (by decide) <| oA 34 X4 d18_33 rfl rfl <| oI 35 X4 d18_34 rfl rfl <| oA 36 X4 d18_35 rfl rfl <| oF 39 X4 (w21 G) Via.refl f2 d18_36 rfl ?_
  intro _ X6
  have f7 := F5.k0 K1
  refine oL 40 X6 f7 d18_39 rfl ?_
  have f8 := F3.k0 K1
  have f9 := F4.keep K1
  have f10 := C1.safe (own_lt (by omega)) sf_pa2
  refine mS 43 0 X6 (rm_au202 G f7 f8 f9 (by omega)) (u48 G) (sS (by omega) f10 all0) d18_40 rfl rfl rfl lr (by decide) (aI (by omega) (by simp) all0) ?_
  rintro _ _ _ _ X11 ⟨rfl, q12, q13⟩ _ _ _
  exact oz X11 d18_43 rfl (by decide) (by decide) (fun _ CC => ⟨rfl, q12, q13⟩)
theorem rm_au204 (G : GL l Z a0 zc fmt kpp) (F0 : ex3 Z h0 pa1) (F1 : fd6 Z h0 pa1 (.int 1)) (F2 : fd5 Z h0 pa1 (.ref pa3)) (F3 : ex1 Z h0 pa2) (F4 : fd1 Z h0 pa2 (.int 0)) (F5 : fd0 Z h0 pa2 (.ref pa4)) (F6 : av0 Z h0 pa3 pk1 32 [.int pi1, .int pi2, .int pi3, .int pi4, .int pi5, .int pi6, .int pi7, .int pi8, i0, i0, i0, i0, i0, i0, i0, i0, i0, i0, i0, i0, i0, i0, i0, i0, i0, i0, i0, i0, i0, i0, i0, i0]) (F7 : ex0 Z h0 pa3) (F8 : av0 Z h0 pa4 pk2 2 [.int 47, .int 42]) (ne : NE pa1 pa3 ∧ NE pa2 pa3 ∧ NE pa3 pa4 ∧ n0 ≤ pa3) : M16 l Z 6 0 0 91 #[.ref pa1, .int 4, .ref pa2] h0 n0 [pa3] [pa3] (Q102 Z pa3 pk1 pi1 pi2 pi3 pi4 pi5 pi6 pi7 pi8 h0) := by
  refine mi B16 ef10 (hEW G) fun s X0 hsf0 n0le => ?_
  have := F0.l
  have := F3.l
  have := F6.l
  have := F8.l
  have sf_pa3 := hsf0 pa3 (by simp)
  refine oA 1 X0 d16_0 rfl rfl <| oA 2 X0 d16_1 rfl rfl <| mV 5 0 X0 F0 (rm_au75 G F0 F1 F3 F4) (u11 G) all0 d16_2 rfl rfl rfl lr (by decide) all0 ?_
  rintro _ _ _ _ X1 rfl K1 _ C1
  refine oA 6 X1 d16_5 rfl rfl <| oA 7 X1 d16_6 rfl rfl ?_
  have f2 := F2.k0 K1
  refine oF 10 X1 (w54 G) Via.refl f2 d16_7 rfl ?_
  intro _ X4
  refine oI 11 X4 d16_10 rfl rfl <| oA 12 X4 d16_11 rfl rfl ?_
  have f5 := F1.k0 K1
  refine oF 15 X4 (w56 G) Via.refl f5 d16_12 rfl ?_
  intro _ X7
  have f8 := F3.keep K1
  have f9 := F4.k0 K1
  have f10 := F5.k0 K1
  have f11 := F6.k0 K1
  have f12 := F7.keep K1
  have f13 := F8.k0 K1
  have f14 := C1.safe (own_lt (by omega)) sf_pa3
  refine mV 18 0 X7 f8 (rm_au203 G f8 f9 f10 f11 f12 f13 (by omega)) (u12 G) (sS (by omega) f14 all0) d16_15 rfl rfl rfl lr (by decide) (aI (by omega) (by simp) all0) ?_
  rintro _ _ _ _ X15 ⟨rfl, q16, q17⟩ _ _ _
  exact oz X15 d16_18 rfl (by decide) (by decide) (fun _ CC => ⟨rfl, q16, q17⟩)
def Q103 (Z : State) (b1 b2 : Addr) (b3 : ClassId) (b4 b5 b6 b7 b8 b9 b10 b11 : Int32) (h0 : Heap) (v : Option Value) (h : Heap) (vm : Vm) : Prop := v = some (.ref b1) ∧ ex3 Z h b1 ∧ fd6 Z h b1 (.int 1) ∧ fd7 Z h b1 (.int 6) ∧ fd8 Z h b1 (.int 0) ∧ fd5 Z h b1 (.ref b2) ∧ av0 Z h b2 b3 32 [.int b4, .int b5, .int b6, .int b7, .int b8, .int b9, .int b10, .int b11, .int 47, i0, .int 42, i0, i0, i0, i0, i0, i0, i0, i0, i0, i0, i0, i0, i0, i0, i0, i0, i0, i0, i0, i0, i0] ∧ ex0 Z h b2
theorem rm_au205 (G : GL l Z a0 zc fmt kpp) (F0 : ex3 Z h0 pa1) (F1 : fd6 Z h0 pa1 (.int 1)) (F2 : fd7 Z h0 pa1 (.int 4)) (F3 : fd8 Z h0 pa1 (.int 0)) (F4 : fd5 Z h0 pa1 (.ref pa3)) (F5 : ex1 Z h0 pa2) (F6 : fd1 Z h0 pa2 (.int 0)) (F7 : fd0 Z h0 pa2 (.ref pa4)) (F8 : av0 Z h0 pa3 pk1 32 [.int pi1, .int pi2, .int pi3, .int pi4, .int pi5, .int pi6, .int pi7, .int pi8, i0, i0, i0, i0, i0, i0, i0, i0, i0, i0, i0, i0, i0, i0, i0, i0, i0, i0, i0, i0, i0, i0, i0, i0]) (F9 : ex0 Z h0 pa3) (F10 : av0 Z h0 pa4 pk2 2 [.int 47, .int 42]) (ne : NE pa1 pa2 ∧ NE pa1 pa3 ∧ NE pa1 pa4 ∧ NE pa2 pa3 ∧ NE pa3 pa4 ∧ n0 ≤ pa1 ∧ n0 ≤ pa3) : M12 l Z 7 0 0 105 #[.ref pa1, .ref pa2] h0 n0 [pa1, pa3] [pa3] (Q103 Z pa1 pa3 pk1 pi1 pi2 pi3 pi4 pi5 pi6 pi7 pi8 h0) := by
  refine mi B12 ef8 (hEW G) fun s X0 hsf0 n0le => ?_
  have := F0.l
  have := F5.l
  have := F8.l
  have := F10.l
  have sf_pa3 := hsf0 pa3 (by simp)
  refine oA 1 X0 d12_0 rfl rfl <| ifnonnullYesJ 9 X0 d12_1 (by decide) <| oA 10 X0 d12_9 rfl rfl <| mV 13 0 X0 F5 (rm_au17 G F5 F6 F7 F10) (u8 G) all0 d12_10 rfl rfl rfl lr (by decide) all0 ?_
  rintro _ _ _ _ X1 rfl K1 _ C1
  refine oT 14 (l' := #[rr pa1, rr pa2, ii 2]) X1 d12_13 rfl rfl <| oA 15 X1 d12_14 rfl rfl <| oA 16 X1 d12_15 rfl rfl ?_
  have f2 := F2.k0 K1
  refine oF 19 X1 (w78 G) Via.refl f2 d12_16 rfl ?_
  intro _ X4
  refine oI 20 X4 d12_19 rfl rfl <| o_iadd 21 (v := 6) X4 d12_20 rfl (by decide) ?_
  have f5 := F1.k0 K1
  have f6 := F4.k0 K1
  have f7 := F8.k0 K1
  have f8 := F0.keep K1
  refine mV 24 0 X4 f8 (rm_au11 G f5 f6 f7 (by decide)) (u9 G) all0 d12_21 rfl rfl rfl lr (by decide) all0 ?_
  rintro _ _ _ _ X9 rfl K9 _ C9
  refine oA 25 X9 d12_24 rfl rfl <| oA 26 X9 d12_25 rfl rfl ?_
  have f10 := f2.k0 K9
  refine oF 29 X9 (w78 G) Via.refl f10 d12_26 rfl ?_
  intro _ X12
  refine oA 30 X12 d12_29 rfl rfl ?_
  have f13 := f8.keep K9
  have f14 := f5.k0 K9
  have f15 := f6.k0 K9
  have f16 := (F5.keep K1).keep K9
  have f17 := (F6.k0 K1).k0 K9
  have f18 := (F7.k0 K1).k0 K9
  have f19 := f7.k0 K9
  have f20 := (F9.keep K1).keep K9
  have f21 := (F10.k0 K1).k0 K9
  have f22 := C9.safe (own_lt (by omega)) (C1.safe (own_lt (by omega)) sf_pa3)
  refine mV 33 0 X12 f13 (rm_au204 G f13 f14 f15 f16 f17 f18 f19 f20 f21 (by omega)) (u13 G) (sS (by omega) f22 all0) d12_30 rfl rfl rfl lr (by decide) (aI (by omega) (by simp) all0) ?_
  rintro _ _ _ _ X23 ⟨rfl, q24, q25⟩ K23 _ _
  refine oA 34 X23 d12_33 rfl rfl <| oD 35 X23 d12_34 rfl rfl ?_
  have f26 := f10.k1 K23 (by omega)
  refine oF 38 X23 (w78 G) Via.refl f26 d12_35 rfl ?_
  intro _ X28
  refine oI 39 X28 d12_38 rfl rfl <| o_iadd 40 (v := 6) X28 d12_39 rfl (by decide) ?_
  have f29 := f13.keep K23
  refine oP 43 (v' := (.int 6)) X28 (w78 G) Via.refl f26 f29 (Or.inl (w79 G)) (w41 G) fd_4 rfl rfl d12_40 rfl (by omega) (Or.inl (by simp)) (sx X28 f29 nc1) ?_
  intro _ _ X30 W30 _
  have := W30.size
  have f31 := f26.same W30
  refine oA 44 X30 d12_43 rfl rfl ?_
  have f32 := f29.wr W30
  have f33 := (f14.k1 K23 (by omega)).other W30 (Or.inr (sn8 G))
  have f34 := (((F3.k0 K1).k0 K9).k1 K23 (by omega)).other W30 (Or.inr (sn9 G))
  have f35 := (f15.k1 K23 (by omega)).other W30 (Or.inr (sn10 G))
  have f36 := q24.oth W30 (by omega)
  have f37 := q25.wr W30
  exact oR X30 d12_44 rfl rfl rfl (by decide) (by decide) (fun _ CC => ⟨rfl, f32, f33, f31, f34, f35, f36, f37⟩)
theorem rm_au206 (G : GL l Z a0 zc fmt kpp) (F0 : ex3 Z h0 pa1) (F1 : fd6 Z h0 pa1 (.int 1)) (F2 : fd7 Z h0 pa1 (.int 4)) (F3 : fd8 Z h0 pa1 (.int 0)) (F4 : fd5 Z h0 pa1 (.ref pa3)) (F5 : ex1 Z h0 pa2) (F6 : fd1 Z h0 pa2 (.int 0)) (F7 : fd0 Z h0 pa2 (.ref pa4)) (F8 : av0 Z h0 pa3 pk1 32 [.int pi1, .int pi2, .int pi3, .int pi4, .int pi5, .int pi6, .int pi7, .int pi8, i0, i0, i0, i0, i0, i0, i0, i0, i0, i0, i0, i0, i0, i0, i0, i0, i0, i0, i0, i0, i0, i0, i0, i0]) (F9 : ex0 Z h0 pa3) (F10 : av0 Z h0 pa4 pk2 2 [.int 47, .int 42]) (ne : NE pa1 pa2 ∧ NE pa1 pa3 ∧ NE pa1 pa4 ∧ NE pa2 pa3 ∧ NE pa3 pa4 ∧ n0 ≤ pa1 ∧ n0 ≤ pa3) : M11 l Z 8 0 0 119 #[.ref pa1, .ref pa2] h0 n0 [pa1, pa3] [pa3] (Q103 Z pa1 pa3 pk1 pi1 pi2 pi3 pi4 pi5 pi6 pi7 pi8 h0) := by
  refine mi B11 ef3 (hEW G) fun s X0 hsf0 n0le => ?_
  have := F0.l
  have := F5.l
  have := F8.l
  have := F10.l
  have sf_pa3 := hsf0 pa3 (by simp)
  refine oA 1 X0 d11_0 rfl rfl <| oA 2 X0 d11_1 rfl rfl <| mU 5 0 X0 F0 (rm_au205 G F0 F1 F2 F3 F4 F5 F6 F7 F8 F9 F10 (by omega)) (u14 G) (sS (by omega) sf_pa3 all0) d11_2 rfl rfl rfl lr (by decide) (aI (by omega) (by simp) (aI (by omega) (by simp) all0)) ?_
  rintro _ _ _ _ X1 ⟨rfl, q2, q3, q4, q5, q6, q7, q8⟩ _ _ _
  refine o_pop 6 X1 d11_5 rfl rfl <| oA 7 X1 d11_6 rfl rfl ?_
  exact oR X1 d11_7 rfl rfl rfl (by decide) (by decide) (fun _ CC => ⟨rfl, q2, q3, q4, q5, q6, q7, q8⟩)
def Q104 (Z : State) (b1 b2 b3 b4 b5 b6 b7 b8 : Int32) (h0 : Heap) (v : Option Value) (h : Heap) (vm : Vm) : Prop := ∃ (xa1 : Addr) (xk1 : ClassId), v = some (.ref xa1) ∧ av0 Z h xa1 xk1 12 [.int b1, .int b2, .int b3, .int b4, .int b5, .int b6, .int b7, .int b8, .int 47, i0, .int 42, i0] ∧ ex0 Z h xa1 ∧ Safe Z EL0 vm h xa1 ∧ h0.size ≤ xa1 ∧ h.size > xa1
theorem rm_au207 (G : GL l Z a0 zc fmt kpp) (F0 : av0 Z h0 pa1 pk1 32 [.int pi1, .int pi2, .int pi3, .int pi4, .int pi5, .int pi6, .int pi7, .int pi8, .int 47, i0, .int 42, i0, i0, i0, i0, i0, i0, i0, i0, i0, i0, i0, i0, i0, i0, i0, i0, i0, i0, i0, i0, i0]) : M27 l Z 1 1 12 40 #[.ref pa1, i0, .int 12] h0 n0 [] [] (Q104 Z pi1 pi2 pi3 pi4 pi5 pi6 pi7 pi8 h0) := by
  refine mi B27 ef13 (hEW G) fun s X0 hsf0 n0le => ?_
  have := F0.l
  refine oI 1 X0 d27_0 rfl rfl <| oI 2 X0 d27_1 rfl rfl <| mS 5 0 X0 (rm_au26 G (by decide)) (u20 G) all0 d27_2 rfl rfl rfl lr (by decide) all0 ?_
  rintro _ _ _ _ X1 rfl K1 _ _
  refine oI 6 X1 d27_5 rfl rfl <| oI 7 X1 d27_6 rfl rfl <| o_isub 8 (v := 12) X1 d27_7 rfl (by decide) <| oT 9 (l' := #[rr pa1, ii 0, ii 12, ii 12, uu]) X1 d27_8 rfl rfl <| oI 10 X1 d27_9 rfl rfl <| nP (aty := .byte) 12 12 X1 (w16 G) d27_10 rfl (by decide) had_byte ?_
  intro _ h2 b2 k2 X2 _ _ E2 V2 A2 _ S2
  have V3 : av0 Z h2 b2 k2 12 [i0, i0, i0, i0, i0, i0, i0, i0, i0, i0, i0, i0] := V2.pad (pad_rep [] (.int (0 : Int32)) 12)
  refine oU 14 (l' := #[rr pa1, ii 0, ii 12, ii 12, rr b2]) X2 d27_12 rfl rfl rfl <| oA 15 X2 d27_14 rfl rfl <| oI 16 X2 d27_15 rfl rfl <| oa 18 X2 d27_16 rfl rfl <| oc 19 (v := 0) X2 d27_18 rfl (by decide) <| oA 20 X2 d27_19 rfl rfl ?_
  have f4 := (F0.k0 K1).ext E2
  refine oL 21 X2 f4 d27_20 rfl <| oI 22 X2 d27_21 rfl rfl <| o_isub 23 (v := 32) X2 d27_22 rfl (by decide) <| oI 24 X2 d27_23 rfl rfl <| mS 27 4 X2 (rm_au27 G (by decide)) (u21 G) all0 d27_24 rfl rfl rfl lr (by decide) all0 ?_
  rintro _ _ _ _ X5 rfl K5 _ C5
  have f6 := f4.k0 K5
  have f7 := V3.k0 K5
  have f8 := C5.safe (own_lt (by omega)) S2
  refine o_cp 30 (us := [.int pi1, .int pi2, .int pi3, .int pi4, .int pi5, .int pi6, .int pi7, .int pi8, .int 47, i0, .int 42, i0]) (vr := [.int pi1, .int pi2, .int pi3, .int pi4, .int pi5, .int pi6, .int pi7, .int pi8, .int 47, i0, .int 42, i0]) (W := 0) X5 (w150 G) (w104 G) (w102 G) (w103 G) f6 f7 (Or.inl ⟨rfl, rfl⟩) (by decide) (by decide) (by decide) (by decide) (by decide) rfl (Nat.le_of_ble_eq_true rfl) rfl d27_27 rfl rfl (by decide) (Nat.le_of_eq rfl) (by decide) (by omega) (Or.inr (by omega)) f8 ?_
  intro _ _ X9 K9 C9 V9
  have := K9.1
  refine oa 32 X9 d27_30 rfl rfl ?_
  have f10 := (A2.keep K5).keep K9
  have f11 := C9.safe (own_lt (by omega)) f8
  exact oR X9 d27_32 rfl rfl rfl (by decide) (by decide) (fun _ CC => ⟨b2, k2, rfl, V9, f10, (CC.safe (own_lt (by omega)) f11), by omega⟩)
theorem rm_au208 (G : GL l Z a0 zc fmt kpp) (F0 : av0 Z h0 pa1 pk1 32 [.int pi1, .int pi2, .int pi3, .int pi4, .int pi5, .int pi6, .int pi7, .int pi8, .int 47, i0, .int 42, i0, i0, i0, i0, i0, i0, i0, i0, i0, i0, i0, i0, i0, i0, i0, i0, i0, i0, i0, i0, i0]) : M26 l Z 2 1 12 56 #[.ref pa1, i0, .int 12] h0 n0 [] [] (Q104 Z pi1 pi2 pi3 pi4 pi5 pi6 pi7 pi8 h0) := by
  refine mi B26 ef0 (hEW G) fun s X0 hsf0 n0le => ?_
  have := F0.l
  refine oI 1 X0 d26_0 rfl rfl <| on 4 X0 d26_1 rfl ((if0 _ _).trans (teq (by decide)).2) <| oI 5 X0 d26_4 rfl rfl <| oA 6 X0 d26_5 rfl rfl <| oL 7 X0 F0 d26_6 rfl <| oN 10 X0 d26_7 rfl (feq (by decide)).1 <| oA 11 X0 d26_10 rfl rfl <| oI 12 X0 d26_11 rfl rfl <| oI 13 X0 d26_12 rfl rfl <| mS 16 0 X0 (rm_au207 G F0) (u22 G) all0 d26_13 rfl rfl rfl lr (by decide) all0 ?_
  rintro _ _ _ _ X1 ⟨xa1_2, xk1_3, rfl, q4, q5, q6, _⟩ _ _ _
  exact oR X1 d26_16 rfl rfl rfl (by decide) (by decide) (fun _ CC => ⟨xa1_2, xk1_3, rfl, q4, q5, (CC.safe (own_lt (by omega)) q6), by omega⟩)
def Q105 (Z : State) (b1 : Addr) (b2 b3 b4 b5 b6 b7 b8 b9 : Int32) (h0 : Heap) (v : Option Value) (h : Heap) (vm : Vm) : Prop := ∃ (xa1 : Addr) (xk1 : ClassId), v = none ∧ ex1 Z h b1 ∧ fd1 Z h b1 (.int 1) ∧ fd0 Z h b1 (.ref xa1) ∧ av0 Z h xa1 xk1 12 [.int b2, .int b3, .int b4, .int b5, .int b6, .int b7, .int b8, .int b9, .int 47, i0, .int 42, i0] ∧ ex0 Z h xa1 ∧ Safe Z EL0 vm h xa1 ∧ h0.size ≤ xa1 ∧ h.size > xa1
theorem rm_au209 (G : GL l Z a0 zc fmt kpp) (F0 : ex1 Z h0 pa1) (F1 : fd1 Z h0 pa1 (.int 0)) (F2 : fd0 Z h0 pa1 .null) (F3 : ex3 Z h0 pa2) (F4 : fd6 Z h0 pa2 (.int 1)) (F5 : fd7 Z h0 pa2 (.int 6)) (F6 : fd8 Z h0 pa2 (.int 0)) (F7 : fd5 Z h0 pa2 (.ref pa3)) (F8 : av0 Z h0 pa3 pk1 32 [.int pi1, .int pi2, .int pi3, .int pi4, .int pi5, .int pi6, .int pi7, .int pi8, .int 47, i0, .int 42, i0, i0, i0, i0, i0, i0, i0, i0, i0, i0, i0, i0, i0, i0, i0, i0, i0, i0, i0, i0, i0]) (ne : NE pa1 pa2 ∧ NE pa1 pa3 ∧ n0 ≤ pa1) : M21 l Z 3 1 12 71 #[.ref pa1, .ref pa2, .null] h0 n0 [pa1] [pa1] (Q105 Z pa1 pi1 pi2 pi3 pi4 pi5 pi6 pi7 pi8 h0) := by
  refine mi B21 ef12 (hEW G) fun s X0 hsf0 n0le => ?_
  have := F0.l
  have := F3.l
  have := F8.l
  have sf_pa1 := hsf0 pa1 (by simp)
  refine oA 1 X0 d21_0 rfl rfl <| o_initO 4 (W := 0) X0 (w12 G) (w13 G) (w14 G) rfl (by decide) (Nat.le_of_eq rfl) (by decide) d21_1 rfl ?_
  intro _ X2
  refine oA 5 X2 d21_4 rfl rfl <| mV 8 0 X2 F3 (rm_au22 G F7) (u16 G) all0 d21_5 rfl rfl rfl lr (by decide) all0 ?_
  rintro _ _ _ _ X3 rfl K3 _ C3
  refine oV 9 (l' := #[rr pa1, rr pa2, .val .null, rr pa3, uu]) X3 d21_8 rfl rfl rfl <| oA 10 X3 d21_9 rfl rfl ?_
  have f4 := F3.keep K3
  have f5 := F5.k0 K3
  refine mV 13 0 X3 f4 (rm_au24 G f4 f5) (u18 G) all0 d21_10 rfl rfl rfl lr (by decide) all0 ?_
  rintro _ _ _ _ X6 rfl K6 _ C6
  refine oS 15 (l' := #[rr pa1, rr pa2, .val .null, rr pa3, ii 6]) X6 d21_13 rfl rfl <| oA 16 X6 d21_15 rfl rfl ?_
  have f7 := (F4.k0 K3).k0 K6
  have f8 := f4.keep K6
  refine mV 19 0 X6 f8 (rm_au73 G f7 (by decide)) (u19 G) all0 d21_16 rfl rfl rfl lr (by decide) all0 ?_
  rintro _ _ _ _ X9 rfl K9 _ C9
  refine oy 41 X9 d21_19 (by decide) ((if0 _ _).trans (teq (by decide)).1) <| oG 44 X9 (w23 G) Via.refl ((sg5 G).ext X9.old.2) d21_41 rfl ?_
  intro _ X11
  refine on 47 X11 d21_44 rfl ((if0 _ _).trans (feq (hzc G)).1) <| oA 48 X11 d21_47 rfl rfl ?_
  have f12 := ((F6.k0 K3).k0 K6).k0 K9
  refine oF 51 X11 (w237 G) Via.refl f12 d21_48 rfl ?_
  intro _ X14
  refine oy 79 X14 d21_51 (by decide) ((if0 _ _).trans (teq (by decide)).1) <| oA 80 X14 d21_79 rfl rfl <| oc 81 (v := 1) X14 d21_80 rfl (by decide) ?_
  have f15 := ((F1.k0 K3).k0 K6).k0 K9
  have f16 := ((F0.keep K3).keep K6).keep K9
  have f18 := C9.safe (own_lt (by omega)) (C6.safe (own_lt (by omega)) (C3.safe (own_lt (by omega)) sf_pa1))
  refine oP 84 (v' := (.int 1)) X14 (w22 G) Via.refl f15 f16 (Or.inr ⟨(w18 G), rfl, rfl⟩) (w2 G) fd_1 rfl rfl d21_81 rfl (by omega) (Or.inl (by simp)) f18 ?_
  intro _ _ X17 W17 C17
  have := W17.size
  have f19 := f15.same W17
  refine oA 85 X17 d21_84 rfl rfl <| oA 86 X17 d21_85 rfl rfl <| oc 87 (v := 0) X17 d21_86 rfl (by decide) <| oi 89 X17 d21_87 rfl rfl <| oc 90 (v := 1) X17 d21_89 rfl (by decide) <| o_ishl 91 (v := 12) X17 d21_90 rfl (by decide) ?_
  have f20 := (((F8.k0 K3).k0 K6).k0 K9).oth W17 (by omega)
  refine mS 94 1 X17 (rm_au208 G f20) (u23 G) all0 d21_91 rfl rfl rfl lr (by decide) all0 ?_
  rintro _ _ _ _ X21 ⟨xa1_22, xk1_23, rfl, q24, q25, q26, _⟩ K21 _ C21
  have f28 := ((((F2.k0 K3).k0 K6).k0 K9).other W17 (Or.inr (sn1 G))).k0 K21
  have f29 := (f16.wr W17).keep K21
  have f31 := C21.safe (own_lt (by omega)) (C17.safe (own_lt (by omega)) f18)
  refine oP 97 (v' := (.ref xa1_22)) X21 (w21 G) Via.refl f28 f29 (Or.inr ⟨(w17 G), rfl, rfl⟩) (w2 G) fd_0 rfl rfl d21_94 rfl (by omega) (Or.inl (by simp)) f31 ?_
  intro _ _ X30 W30 C30
  have := W30.size
  have f32 := f28.same W30
  have f33 := f29.wr W30
  have f34 := (f19.k0 K21).other W30 (Or.inr (sn0 G))
  have f35 := q24.oth W30 (by omega)
  have f36 := q25.wr W30
  have f37 := C30.safe (own_lt (by omega)) q26
  exact oz X30 d21_97 rfl (by decide) (by decide) (fun _ CC => ⟨xa1_22, xk1_23, rfl, f33, f34, f32, f35, f36, (CC.safe (own_lt (by omega)) f37), by omega⟩)
theorem rm_au210 (G : GL l Z a0 zc fmt kpp) (F0 : ex1 Z h0 pa1) (F1 : fd1 Z h0 pa1 (.int 0)) (F2 : fd0 Z h0 pa1 .null) (F3 : ex3 Z h0 pa2) (F4 : fd6 Z h0 pa2 (.int 1)) (F5 : fd7 Z h0 pa2 (.int 6)) (F6 : fd8 Z h0 pa2 (.int 0)) (F7 : fd5 Z h0 pa2 (.ref pa3)) (F8 : av0 Z h0 pa3 pk1 32 [.int pi1, .int pi2, .int pi3, .int pi4, .int pi5, .int pi6, .int pi7, .int pi8, .int 47, i0, .int 42, i0, i0, i0, i0, i0, i0, i0, i0, i0, i0, i0, i0, i0, i0, i0, i0, i0, i0, i0, i0, i0]) (ne : NE pa1 pa2 ∧ NE pa1 pa3 ∧ n0 ≤ pa1) : M20 l Z 4 1 12 87 #[.ref pa1, .ref pa2] h0 n0 [pa1] [pa1] (Q105 Z pa1 pi1 pi2 pi3 pi4 pi5 pi6 pi7 pi8 h0) := by
  refine mi B20 ef3 (hEW G) fun s X0 hsf0 n0le => ?_
  have := F0.l
  have := F3.l
  have := F8.l
  have sf_pa1 := hsf0 pa1 (by simp)
  refine oA 1 X0 d20_0 rfl rfl <| oA 2 X0 d20_1 rfl rfl <| o_aconstNull 3 X0 d20_2 rfl <| mP 6 0 X0 (rm_au209 G F0 F1 F2 F3 F4 F5 F6 F7 F8 (by omega)) (u24 G) (sS (by omega) sf_pa1 all0) d20_3 rfl rfl rfl lr (by decide) (aI (by omega) (by simp) all0) ?_
  rintro _ _ _ _ X1 ⟨xa1_2, xk1_3, rfl, q4, q5, q6, q7, q8, q9, _⟩ _ _ _
  exact oz X1 d20_6 rfl (by decide) (by decide) (fun _ CC => ⟨xa1_2, xk1_3, rfl, q4, q5, q6, q7, q8, (CC.safe (own_lt (by omega)) q9), by omega⟩)
def Q106 (Z : State) (b1 b2 b3 b4 b5 b6 b7 b8 : Int32) (h0 : Heap) (v : Option Value) (h : Heap) (vm : Vm) : Prop := ∃ (xa1 : Addr) (xa2 : Addr) (xk1 : ClassId), v = some (.ref xa1) ∧ ex1 Z h xa1 ∧ fd1 Z h xa1 (.int 1) ∧ fd0 Z h xa1 (.ref xa2) ∧ Safe Z EL0 vm h xa1 ∧ av0 Z h xa2 xk1 12 [.int b1, .int b2, .int b3, .int b4, .int b5, .int b6, .int b7, .int b8, .int 47, i0, .int 42, i0] ∧ ex0 Z h xa2 ∧ Safe Z EL0 vm h xa2 ∧ h0.size ≤ xa1 ∧ h.size > xa1 ∧ h0.size ≤ xa2 ∧ h.size > xa2 ∧ NE xa1 xa2
theorem rm_au211 (G : GL l Z a0 zc fmt kpp) (F0 : ex3 Z h0 pa1) (F1 : fd6 Z h0 pa1 (.int 1)) (F2 : fd7 Z h0 pa1 (.int 6)) (F3 : fd8 Z h0 pa1 (.int 0)) (F4 : fd5 Z h0 pa1 (.ref pa2)) (F5 : av0 Z h0 pa2 pk1 32 [.int pi1, .int pi2, .int pi3, .int pi4, .int pi5, .int pi6, .int pi7, .int pi8, .int 47, i0, .int 42, i0, i0, i0, i0, i0, i0, i0, i0, i0, i0, i0, i0, i0, i0, i0, i0, i0, i0, i0, i0, i0]) : M19 l Z 5 2 16 101 #[.ref pa1] h0 n0 [] [] (Q106 Z pi1 pi2 pi3 pi4 pi5 pi6 pi7 pi8 h0) := by
  refine mi B19 ef7 (hEW G) fun s X0 hsf0 n0le => ?_
  have l1 := F0.l
  have := F5.l
  refine o_new 3 X0 (w111 G) (w2 G) (w3 G) d19_0 rfl (by decide) (by decide) ?_
  intro _ h1 b1 X1 _ l1 E1 A1 D1 _ _ S1
  have f2 : fd0 Z h1 b1 .null := D1 (Or.inr (w17 G)) fd_0
  have f3 : fd1 Z h1 b1 (.int 0) := D1 (Or.inr (w18 G)) fd_1
  refine oD 4 X1 d19_3 rfl rfl <| oA 5 X1 d19_4 rfl rfl ?_
  have f4 := F0.ext E1
  have f5 := F1.ext E1
  have f6 := F2.ext E1
  have f7 := F3.ext E1
  have f8 := F4.ext E1
  have f9 := F5.ext E1
  refine mP 8 1 X1 (rm_au210 G A1 f3 f2 f4 f5 f6 f7 f8 f9 (by omega)) (u25 G) (sS (by omega) S1 all0) d19_5 rfl rfl rfl lr (by decide) (aR (by omega) all0) ?_
  rintro _ _ _ _ X10 ⟨xa1_11, xk1_12, rfl, q13, q14, q15, q16, q17, q18, _⟩ _ _ C10
  have f20 := C10.safe (own_lt (by omega)) S1
  exact oR X10 d19_8 rfl rfl rfl (by decide) (by decide) (fun _ CC => ⟨b1, xa1_11, xk1_12, rfl, q13, q14, q15, (CC.safe (own_lt (by omega)) f20), q16, q17, (CC.safe (own_lt (by omega)) q18), by omega⟩)
def Q107 (Z : State) (b1 b2 : Addr) (b3 b4 b5 b6 b7 b8 b9 b10 : Int32) (h0 : Heap) (v : Option Value) (h : Heap) (vm : Vm) : Prop := ∃ (xa1 : Addr) (xa2 : Addr) (xa3 : Addr) (xk1 : ClassId), v = some (.ref xa1) ∧ ex4 Z h xa1 ∧ fd3 Z h xa1 (.ref b1) ∧ fd2 Z h xa1 (.ref xa2) ∧ fd4 Z h xa1 (.ref b2) ∧ ex1 Z h xa2 ∧ fd1 Z h xa2 (.int 1) ∧ fd0 Z h xa2 (.ref xa3) ∧ Safe Z EL0 vm h xa2 ∧ av0 Z h xa3 xk1 12 [.int b3, .int b4, .int b5, .int b6, .int b7, .int b8, .int b9, .int b10, .int 47, i0, .int 42, i0] ∧ ex0 Z h xa3 ∧ Safe Z EL0 vm h xa3 ∧ h0.size ≤ xa1 ∧ h.size > xa1 ∧ h0.size ≤ xa2 ∧ h.size > xa2 ∧ NE xa1 xa2 ∧ h0.size ≤ xa3 ∧ h.size > xa3 ∧ NE xa1 xa3 ∧ NE xa2 xa3
theorem rm_au212 (G : GL l Z a0 zc fmt kpp) (F0 : ex1 Z h0 pa1) (F1 : fd1 Z h0 pa1 (.int 1)) (F2 : fd0 Z h0 pa1 (.ref pa2)) (F3 : av0 Z h0 pa2 pk1 8 [.int pi100, .int pi101, .int pi1, .int pi2, .int pi3, .int pi4, .int pi5, .int pi6]) (F4 : ex0 Z h0 pa2) : M8 l Z 10 8 83 145 #[.ref pa1] h0 n0 [] [] (Q107 Z kpp pa1 pi100 pi101 pi1 pi2 pi3 pi4 pi5 pi6 h0) := by
  have hw := G.1
  refine mi B8 ef7 (hEW G) fun s X0 hsf0 n0le => ?_
  have l1 := F0.l
  have := F3.l
  refine o_new 3 X0 (w38 G) (w39 G) (w36 G) d8_0 rfl (by decide) (by decide) ?_
  intro _ h1 b1 X1 _ l1 E1 A1 D1 _ _ _
  have f2 : fd2 Z h1 b1 .null := D1 (Or.inr (w159 G)) fd_2
  have f3 : fd3 Z h1 b1 .null := D1 (Or.inr (w161 G)) fd_3
  have f4 : fd4 Z h1 b1 .null := D1 (Or.inr (w163 G)) fd_2
  refine oD 4 X1 d8_3 rfl rfl <| o_new 7 X1 (w40 G) (w41 G) (w42 G) d8_4 rfl (by decide) (by decide) ?_
  intro _ h5 b5 X5 _ _ E5 A5 D5 _ _ _
  have f6 : fd5 Z h5 b5 .null := D5 (Or.inl (w55 G)) fd_0
  have f7 : fd6 Z h5 b5 (.int 0) := D5 (Or.inl (w57 G)) fd_1
  have f8 : fd7 Z h5 b5 (.int 0) := D5 (Or.inl (w79 G)) fd_4
  have f9 : fd8 Z h5 b5 (.int 0) := D5 (Or.inl (w238 G)) fd_5
  refine oD 8 X5 d8_7 rfl rfl <| mP 11 3 X5 (rm_au8 G A5 f7 f8 f9 f6 (by omega)) (u6 G) all0 d8_8 rfl rfl rfl lr (by decide) (aR (by omega) all0) ?_
  rintro _ _ _ _ X10 ⟨xa1_11, _, rfl, q13, q14, q15, q16, q17, q18, _, q20, _⟩ K10 _ _
  refine oA 12 X10 d8_11 rfl rfl ?_
  have f22 := ((F0.ext E1).ext E5).keep K10
  have f23 := ((F1.ext E1).ext E5).k1 K10 (by omega)
  have f24 := ((F2.ext E1).ext E5).k1 K10 (by omega)
  have f25 := ((F3.ext E1).ext E5).k1 K10 (by omega)
  refine mV 15 2 X10 q13 (rm_au200 G q13 q14 q15 q16 q17 f22 f23 f24 q18 f25 (by omega)) (u15 G) all0 d8_12 rfl rfl rfl lr (by decide) (aR (by omega) all0) ?_
  rintro _ _ _ _ X26 ⟨xa1_27, _, rfl, q29, q30, q31, q32, q33, q34, q35, q36, _⟩ K26 _ C26
  refine o_ldcC 17 (n := 8) (vs := own_bs ([47, 42] : List Int32)) (z := (2 : Int32)) X26 (w105 G) (hws_str hw) (by decide) ⟨by decide, rfl⟩ (by decide) (by decide) d8_15 rfl (by decide) (by decide) (by decide) (by decide) ?_
  intro a38 b38 kb38 _ h38 _ X38 E38 C38 Es38 Cs38 Vs38 As38 SF38
  have lta38 : h38.size > a38 := Es38.lt
  have ltb38 : h38.size > b38 := As38.lt
  have := E38.1
  have Bs38 : av0 Z h38 b38 kb38 2 [.int 47, .int 42] := As38
  have f40 := (((A1.ext E5).keep K10).keep K26).ext E38
  have := own_nes (SF38 b1 (sx X38 f40 nc2))
  have f42 := q29.ext E38
  have := own_nes (SF38 b5 (sx X38 f42 nc1))
  have f44 := C38.safe (own_lt (by omega)) (C26.safe (own_lt (by omega)) q20)
  have := own_nes (SF38 xa1_11 f44)
  have f46 := C38.safe (own_lt (by omega)) q36
  have := own_nes (SF38 xa1_27 f46)
  have f47 := q30.ext E38
  have f48 := q31.ext E38
  have f49 := q32.ext E38
  have f50 := q33.ext E38
  have f51 := q34.ext E38
  have f52 := q35.ext E38
  refine mV 20 2 X38 f42 (rm_au206 G f42 f47 f48 f49 f50 Es38 Cs38 Vs38 f51 f52 Bs38 (by omega)) (u15 G) (sS (by omega) f46 all0) d8_17 rfl rfl rfl lr (by decide) (aR (by omega) (aR (by omega) all0)) ?_
  rintro _ _ _ _ X53 ⟨rfl, q54, q55, q56, q57, q58, q59, _⟩ K53 _ _
  refine mV 23 2 X53 q54 (rm_au211 G q54 q55 q56 q57 q58 q59) (u26 G) all0 d8_20 rfl rfl rfl lr (by decide) all0 ?_
  rintro _ _ _ _ X61 ⟨xa1_62, xa2_63, xk1_64, rfl, q65, q66, q67, q68, q69, q70, q71, _⟩ K61 _ _
  refine oG 26 X61 (w151 G) Via.refl ((sg1 G).ext X61.old.2) d8_23 rfl ?_
  intro _ X74
  refine oA 27 X74 d8_26 rfl rfl ?_
  have f75 := (f40.keep K53).keep K61
  have f76 := (((((f3.ext E5).k1 K10 (by omega)).k1 K26 (by omega)).ext E38).k2 K53 (by omega)).k0 K61
  have f77 := (((((f2.ext E5).k1 K10 (by omega)).k1 K26 (by omega)).ext E38).k2 K53 (by omega)).k0 K61
  have f78 := (((((f4.ext E5).k1 K10 (by omega)).k1 K26 (by omega)).ext E38).k2 K53 (by omega)).k0 K61
  refine mP 30 1 X74 (rm_au33 G f75 f76 f77 f78 (by omega)) (u27 G) all0 d8_27 rfl rfl rfl lr (by decide) (aR (by omega) all0) ?_
  rintro _ _ _ _ X79 ⟨rfl, q80, q81, q82, q83⟩ K79 _ C79
  have f84 := q65.keep K79
  have f85 := q66.k1 K79 (by omega)
  have f86 := q67.k1 K79 (by omega)
  have f87 := C79.safe (own_lt (by omega)) q68
  have f88 := q69.k1 K79 (by omega)
  have f89 := q70.keep K79
  have f90 := C79.safe (own_lt (by omega)) q71
  exact oR X79 d8_30 rfl rfl rfl (by decide) (by decide) (fun _ CC => ⟨b1, xa1_62, xa2_63, xk1_64, rfl, q80, q81, q82, q83, f84, f85, f86, (CC.safe (own_lt (by omega)) f87), f88, f89, (CC.safe (own_lt (by omega)) f90), by omega⟩)
theorem rm_au213 (G : GL l Z a0 zc fmt kpp) (F0 : av0 Z h0 pa1 pk1 12 [.int 47, i0, .int pi1, .int pi2, .int pi3, .int pi4, .int pi5, .int pi6, .int 47, i0, .int 42, i0]) (F1 : av0 Z h0 pa2 pk2 12 [.int 47, i0, .int pi1, .int pi2, .int pi3, .int pi4, .int pi5, .int pi6, .int 47, i0, .int 42, i0]) : M33 l Z 0 0 0 0 #[.ref pa1, .ref pa2] h0 n0 [] [] (Q16 Z  h0) := by
  refine mi B33 ef8 (hEW G) fun s X0 hsf0 n0le => ?_
  have := F0.l
  have := F1.l
  refine oA 1 X0 d33_0 rfl rfl <| oL 2 X0 F0 d33_1 rfl <| oA 3 X0 d33_2 rfl rfl <| oL 4 X0 F1 d33_3 rfl <| oN 7 X0 d33_4 rfl (teq (by decide)).2 <| oc 8 (v := 0) X0 d33_7 rfl (by decide) <| oT 9 (l' := #[rr pa1, rr pa2, ii 0]) X0 d33_8 rfl rfl <| oI 10 X0 d33_9 rfl rfl <| oA 11 X0 d33_10 rfl rfl <| oL 12 X0 F0 d33_11 rfl <| oN 15 X0 d33_12 rfl (tlt (by decide)).2.1 <| oA 16 X0 d33_15 rfl rfl ?_
  refine oI 17 X0 d33_16 rfl rfl <| oB 18 (v := (.int 47)) X0 F0 ⟨by decide, by decide⟩ rfl d33_17 rfl <| oA 19 X0 d33_18 rfl rfl <| oI 20 X0 d33_19 rfl rfl <| oB 21 (v := (.int 47)) X0 F1 ⟨by decide, by decide⟩ rfl d33_20 rfl <| oY 26 X0 d33_21 (by decide) (teq (by decide)).1 <| oJ 29 1 #[rr pa1, rr pa2, ii 1] X0 d33_26 rfl rfl (by decide) rfl <| og 9 X0 d33_29 (by decide) <| oI 10 X0 d33_9 rfl rfl <| oA 11 X0 d33_10 rfl rfl <| oL 12 X0 F0 d33_11 rfl <| oN 15 X0 d33_12 rfl (tlt (by decide)).2.1 ?_
  refine oA 16 X0 d33_15 rfl rfl <| oI 17 X0 d33_16 rfl rfl <| oB 18 (v := (.int 0)) X0 F0 ⟨by decide, by decide⟩ rfl d33_17 rfl <| oA 19 X0 d33_18 rfl rfl <| oI 20 X0 d33_19 rfl rfl <| oB 21 (v := (.int 0)) X0 F1 ⟨by decide, by decide⟩ rfl d33_20 rfl <| oY 26 X0 d33_21 (by decide) (teq (by decide)).1 <| oJ 29 2 #[rr pa1, rr pa2, ii 2] X0 d33_26 rfl rfl (by decide) rfl <| og 9 X0 d33_29 (by decide) <| oI 10 X0 d33_9 rfl rfl <| oA 11 X0 d33_10 rfl rfl <| oL 12 X0 F0 d33_11 rfl ?_
  refine oN 15 X0 d33_12 rfl (tlt (by decide)).2.1 <| oA 16 X0 d33_15 rfl rfl <| oI 17 X0 d33_16 rfl rfl <| oB 18 (v := (.int pi1)) X0 F0 ⟨by decide, by decide⟩ rfl d33_17 rfl <| oA 19 X0 d33_18 rfl rfl <| oI 20 X0 d33_19 rfl rfl <| oB 21 (v := (.int pi1)) X0 F1 ⟨by decide, by decide⟩ rfl d33_20 rfl <| oY 26 X0 d33_21 (by decide) (teq rfl).1 <| oJ 29 3 #[rr pa1, rr pa2, ii 3] X0 d33_26 rfl rfl (by decide) rfl <| og 9 X0 d33_29 (by decide) <| oI 10 X0 d33_9 rfl rfl <| oA 11 X0 d33_10 rfl rfl ?_
  refine oL 12 X0 F0 d33_11 rfl <| oN 15 X0 d33_12 rfl (tlt (by decide)).2.1 <| oA 16 X0 d33_15 rfl rfl <| oI 17 X0 d33_16 rfl rfl <| oB 18 (v := (.int pi2)) X0 F0 ⟨by decide, by decide⟩ rfl d33_17 rfl <| oA 19 X0 d33_18 rfl rfl <| oI 20 X0 d33_19 rfl rfl <| oB 21 (v := (.int pi2)) X0 F1 ⟨by decide, by decide⟩ rfl d33_20 rfl <| oY 26 X0 d33_21 (by decide) (teq rfl).1 <| oJ 29 4 #[rr pa1, rr pa2, ii 4] X0 d33_26 rfl rfl (by decide) rfl <| og 9 X0 d33_29 (by decide) <| oI 10 X0 d33_9 rfl rfl ?_
  refine oA 11 X0 d33_10 rfl rfl <| oL 12 X0 F0 d33_11 rfl <| oN 15 X0 d33_12 rfl (tlt (by decide)).2.1 <| oA 16 X0 d33_15 rfl rfl <| oI 17 X0 d33_16 rfl rfl <| oB 18 (v := (.int pi3)) X0 F0 ⟨by decide, by decide⟩ rfl d33_17 rfl <| oA 19 X0 d33_18 rfl rfl <| oI 20 X0 d33_19 rfl rfl <| oB 21 (v := (.int pi3)) X0 F1 ⟨by decide, by decide⟩ rfl d33_20 rfl <| oY 26 X0 d33_21 (by decide) (teq rfl).1 <| oJ 29 5 #[rr pa1, rr pa2, ii 5] X0 d33_26 rfl rfl (by decide) rfl <| og 9 X0 d33_29 (by decide) ?_
  refine oI 10 X0 d33_9 rfl rfl <| oA 11 X0 d33_10 rfl rfl <| oL 12 X0 F0 d33_11 rfl <| oN 15 X0 d33_12 rfl (tlt (by decide)).2.1 <| oA 16 X0 d33_15 rfl rfl <| oI 17 X0 d33_16 rfl rfl <| oB 18 (v := (.int pi4)) X0 F0 ⟨by decide, by decide⟩ rfl d33_17 rfl <| oA 19 X0 d33_18 rfl rfl <| oI 20 X0 d33_19 rfl rfl <| oB 21 (v := (.int pi4)) X0 F1 ⟨by decide, by decide⟩ rfl d33_20 rfl <| oY 26 X0 d33_21 (by decide) (teq rfl).1 <| oJ 29 6 #[rr pa1, rr pa2, ii 6] X0 d33_26 rfl rfl (by decide) rfl ?_
  refine og 9 X0 d33_29 (by decide) <| oI 10 X0 d33_9 rfl rfl <| oA 11 X0 d33_10 rfl rfl <| oL 12 X0 F0 d33_11 rfl <| oN 15 X0 d33_12 rfl (tlt (by decide)).2.1 <| oA 16 X0 d33_15 rfl rfl <| oI 17 X0 d33_16 rfl rfl <| oB 18 (v := (.int pi5)) X0 F0 ⟨by decide, by decide⟩ rfl d33_17 rfl <| oA 19 X0 d33_18 rfl rfl <| oI 20 X0 d33_19 rfl rfl <| oB 21 (v := (.int pi5)) X0 F1 ⟨by decide, by decide⟩ rfl d33_20 rfl <| oY 26 X0 d33_21 (by decide) (teq rfl).1 ?_
  refine oJ 29 7 #[rr pa1, rr pa2, ii 7] X0 d33_26 rfl rfl (by decide) rfl <| og 9 X0 d33_29 (by decide) <| oI 10 X0 d33_9 rfl rfl <| oA 11 X0 d33_10 rfl rfl <| oL 12 X0 F0 d33_11 rfl <| oN 15 X0 d33_12 rfl (tlt (by decide)).2.1 <| oA 16 X0 d33_15 rfl rfl <| oI 17 X0 d33_16 rfl rfl <| oB 18 (v := (.int pi6)) X0 F0 ⟨by decide, by decide⟩ rfl d33_17 rfl <| oA 19 X0 d33_18 rfl rfl <| oI 20 X0 d33_19 rfl rfl <| oB 21 (v := (.int pi6)) X0 F1 ⟨by decide, by decide⟩ rfl d33_20 rfl ?_
  refine oY 26 X0 d33_21 (by decide) (teq rfl).1 <| oJ 29 8 #[rr pa1, rr pa2, ii 8] X0 d33_26 rfl rfl (by decide) rfl <| og 9 X0 d33_29 (by decide) <| oI 10 X0 d33_9 rfl rfl <| oA 11 X0 d33_10 rfl rfl <| oL 12 X0 F0 d33_11 rfl <| oN 15 X0 d33_12 rfl (tlt (by decide)).2.1 <| oA 16 X0 d33_15 rfl rfl <| oI 17 X0 d33_16 rfl rfl <| oB 18 (v := (.int 47)) X0 F0 ⟨by decide, by decide⟩ rfl d33_17 rfl <| oA 19 X0 d33_18 rfl rfl <| oI 20 X0 d33_19 rfl rfl ?_
  refine oB 21 (v := (.int 47)) X0 F1 ⟨by decide, by decide⟩ rfl d33_20 rfl <| oY 26 X0 d33_21 (by decide) (teq (by decide)).1 <| oJ 29 9 #[rr pa1, rr pa2, ii 9] X0 d33_26 rfl rfl (by decide) rfl <| og 9 X0 d33_29 (by decide) <| oI 10 X0 d33_9 rfl rfl <| oA 11 X0 d33_10 rfl rfl <| oL 12 X0 F0 d33_11 rfl <| oN 15 X0 d33_12 rfl (tlt (by decide)).2.1 <| oA 16 X0 d33_15 rfl rfl <| oI 17 X0 d33_16 rfl rfl <| oB 18 (v := (.int 0)) X0 F0 ⟨by decide, by decide⟩ rfl d33_17 rfl <| oA 19 X0 d33_18 rfl rfl ?_
  refine oI 20 X0 d33_19 rfl rfl <| oB 21 (v := (.int 0)) X0 F1 ⟨by decide, by decide⟩ rfl d33_20 rfl <| oY 26 X0 d33_21 (by decide) (teq (by decide)).1 <| oJ 29 10 #[rr pa1, rr pa2, ii 10] X0 d33_26 rfl rfl (by decide) rfl <| og 9 X0 d33_29 (by decide) <| oI 10 X0 d33_9 rfl rfl <| oA 11 X0 d33_10 rfl rfl <| oL 12 X0 F0 d33_11 rfl <| oN 15 X0 d33_12 rfl (tlt (by decide)).2.1 <| oA 16 X0 d33_15 rfl rfl <| oI 17 X0 d33_16 rfl rfl <| oB 18 (v := (.int 42)) X0 F0 ⟨by decide, by decide⟩ rfl d33_17 rfl ?_
  refine oA 19 X0 d33_18 rfl rfl <| oI 20 X0 d33_19 rfl rfl <| oB 21 (v := (.int 42)) X0 F1 ⟨by decide, by decide⟩ rfl d33_20 rfl <| oY 26 X0 d33_21 (by decide) (teq (by decide)).1 <| oJ 29 11 #[rr pa1, rr pa2, ii 11] X0 d33_26 rfl rfl (by decide) rfl <| og 9 X0 d33_29 (by decide) <| oI 10 X0 d33_9 rfl rfl <| oA 11 X0 d33_10 rfl rfl <| oL 12 X0 F0 d33_11 rfl <| oN 15 X0 d33_12 rfl (tlt (by decide)).2.1 <| oA 16 X0 d33_15 rfl rfl <| oI 17 X0 d33_16 rfl rfl ?_
  refine oB 18 (v := (.int 0)) X0 F0 ⟨by decide, by decide⟩ rfl d33_17 rfl <| oA 19 X0 d33_18 rfl rfl <| oI 20 X0 d33_19 rfl rfl <| oB 21 (v := (.int 0)) X0 F1 ⟨by decide, by decide⟩ rfl d33_20 rfl <| oY 26 X0 d33_21 (by decide) (teq (by decide)).1 <| oJ 29 12 #[rr pa1, rr pa2, ii 12] X0 d33_26 rfl rfl (by decide) rfl <| og 9 X0 d33_29 (by decide) <| oI 10 X0 d33_9 rfl rfl <| oA 11 X0 d33_10 rfl rfl <| oL 12 X0 F0 d33_11 rfl <| oY 32 X0 d33_12 (by decide) (flt (by decide)).2.1 <| oc 33 (v := 1) X0 d33_32 rfl (by decide) ?_
  exact o_nret (y := (1 : Int32)) (t := .boolean) X0 d33_33 rfl (by decide) (by simp) (by decide) (by decide) (fun _ CC => rfl)
theorem rm_au214 (G : GL l Z a0 zc fmt kpp) (F0 : fd1 Z h0 pa1 (.int pi100)) (F1 : fd0 Z h0 pa1 (.ref pa3)) (F2 : ex1 Z h0 pa2) (F3 : fd1 Z h0 pa2 (.int pi101)) (F4 : fd0 Z h0 pa2 (.ref pa4)) (F5 : av0 Z h0 pa3 pk1 12 [.int 47, i0, .int pi1, .int pi2, .int pi3, .int pi4, .int pi5, .int pi6, .int 47, i0, .int 42, i0]) (F6 : av0 Z h0 pa4 pk2 12 [.int 47, i0, .int pi1, .int pi2, .int pi3, .int pi4, .int pi5, .int pi6, .int 47, i0, .int 42, i0]) (pc_0 : pi100 = pi101) (ne : NE pa1 pa2) : M32 l Z 1 0 0 14 #[.ref pa1, .ref pa2] h0 n0 [] [] (Q16 Z  h0) := by
  refine mi B32 ef8 (hEW G) fun s X0 hsf0 n0le => ?_
  have := F0.l
  have := F2.l
  have := F5.l
  have := F6.l
  refine oA 1 X0 d32_0 rfl rfl <| oA 2 X0 d32_1 rfl rfl <| o_acmp 7 (same := false) X0 d32_2 rfl rfl (decide_eq_false (fun q => absurd (Value.ref.inj q) (own_ne (by omega)))) (by decide) (by decide) <| oA 8 X0 d32_7 rfl rfl <| o_instY 11 X0 (w174 G) (Ins.self F2) d32_8 rfl ?_
  intro _ X2
  refine on 14 X2 d32_11 rfl ((if0 _ _).trans (feq (by decide)).1) <| oA 15 X2 d32_14 rfl rfl <| o_castY 18 X2 (w174 G) (Ins.self F2) d32_15 rfl ?_
  intro _ X4
  refine oV 19 (l' := #[rr pa1, rr pa2, rr pa2]) X4 d32_18 rfl rfl rfl <| oG 22 X4 (w23 G) Via.refl ((sg5 G).ext X4.old.2) d32_19 rfl ?_
  intro _ X6
  refine on 25 X6 d32_22 rfl ((if0 _ _).trans (feq (hzc G)).1) <| oA 26 X6 d32_25 rfl rfl <| oF 29 X6 (w22 G) Via.refl F0 d32_26 rfl ?_
  intro _ X8
  refine oA 30 X8 d32_29 rfl rfl <| oF 33 X8 (w22 G) Via.refl F3 d32_30 rfl ?_
  intro _ X10
  refine oN 36 X10 d32_33 rfl (teq pc_0).2 <| oA 37 X10 d32_36 rfl rfl <| oF 40 X10 (w21 G) Via.refl F1 d32_37 rfl ?_
  intro _ X12
  refine oA 41 X12 d32_40 rfl rfl <| oF 44 X12 (w21 G) Via.refl F4 d32_41 rfl ?_
  intro _ X14
  refine mS 47 0 X14 (rm_au213 G F5 F6) (u30 G) all0 d32_44 rfl rfl rfl lr (by decide) all0 ?_
  rintro _ _ _ _ X15 rfl _ _ _
  refine on 50 X15 d32_47 rfl ((if0 _ _).trans (feq (by decide)).1) <| oc 51 (v := 1) X15 d32_50 rfl (by decide) <| og 55 X15 d32_51 (by decide) ?_
  exact o_nret (y := (1 : Int32)) (t := .boolean) X15 d32_55 rfl (by decide) (by simp) (by decide) (by decide) (fun _ CC => rfl)
def Q108 (Z : State) (b1 : Addr) (b2 : ClassId) (b3 : Int32) (h0 : Heap) (v : Option Value) (h : Heap) (vm : Vm) : Prop := v = some (.int 2) ∧ av0 Z h b1 b2 4 [.int 47, .int (b3.toInt8.toInt32), i0, i0] ∧ ex0 Z h b1
theorem rm_au215 (G : GL l Z a0 zc fmt kpp) (F0 : av1 Z h0 pa1 pk1 4 [.int 47, .int pi1, .int pi2, .int pi3]) (F1 : av0 Z h0 pa2 pk2 4 [i0, i0, i0, i0]) (F2 : ex0 Z h0 pa2) (rg_pi1 : ¬ pi1 < 0 ∧ ¬ (255 : Int32) < pi1) (bg_pi2 : (255 : Int32) < pi2 ∧ ¬ (65535 : Int32) < pi2) (ne : NE pa1 pa2 ∧ n0 ≤ pa2) : M6 l Z 0 0 0 0 #[.ref pa1, i0, .ref pa2, i0, .int 4] h0 n0 [pa2] [pa2] (Q108 Z pa2 pk2 pi1 h0) := by
  refine mi B6 ef6 (hEW G) fun s X0 hsf0 n0le => ?_
  have := F0.l
  have := F1.l
  have sf_pa2 := hsf0 pa2 (by simp)
  refine oc 1 (v := 0) X0 d6_0 rfl (by decide) <| oS 3 (l' := #[rr pa1, ii 0, rr pa2, ii 0, ii 4, ii 0, uu]) X0 d6_1 rfl rfl <| oi 5 X0 d6_3 rfl rfl <| oi 7 X0 d6_5 rfl rfl <| oN 10 X0 d6_7 rfl (tlt (by decide)).2.1 <| oA 11 X0 d6_10 rfl rfl <| oI 12 X0 d6_11 rfl rfl <| oC 13 (v := (.int 47)) X0 F0 ⟨by decide, by decide⟩ rfl d6_12 rfl <| oS 15 (l' := #[rr pa1, ii 0, rr pa2, ii 0, ii 4, ii 0, ii 47]) X0 d6_13 rfl rfl <| oi 17 X0 d6_15 rfl rfl <| o_sipush 20 (v := 255) X0 d6_17 rfl (by decide) <| oY 26 X0 d6_20 (by decide) (flt (by decide)).2.2.2 ?_
  refine oA 27 X0 d6_26 rfl rfl <| oI 28 X0 d6_27 rfl rfl <| oi 30 X0 d6_28 rfl rfl <| o_i2b 31 (v := 47) X0 d6_30 rfl (by decide) <| sB 32 0 47 X0 F1 (by decide) (lb rfl) (by decide) d6_31 rfl (by omega) (Or.inl (by simp)) sf_pa2 ?_
  rintro _ _ X1 ⟨_, _, W1⟩ C1 V1
  have := W1.size
  have V2 := V1.as [.int 47, i0, i0, i0] rfl
  refine oJ 35 1 #[rr pa1, ii 1, rr pa2, ii 0, ii 4, ii 0, ii 47] X1 d6_32 rfl rfl (by decide) rfl <| oJ 38 1 #[rr pa1, ii 1, rr pa2, ii 1, ii 4, ii 0, ii 47] X1 d6_35 rfl rfl (by decide) rfl <| oJ 41 1 #[rr pa1, ii 1, rr pa2, ii 1, ii 4, ii 1, ii 47] X1 d6_38 rfl rfl (by decide) rfl <| og 3 X1 d6_41 (by decide) <| oi 5 X1 d6_3 rfl rfl <| oi 7 X1 d6_5 rfl rfl <| oN 10 X1 d6_7 rfl (tlt (by decide)).2.1 <| oA 11 X1 d6_10 rfl rfl <| oI 12 X1 d6_11 rfl rfl ?_
  have f3 := F0.oth W1 (by omega)
  refine oC 13 (v := (.int pi1)) X1 f3 ⟨by decide, by decide⟩ rfl d6_12 rfl <| oS 15 (l' := #[rr pa1, ii 1, rr pa2, ii 1, ii 4, ii 1, ii pi1]) X1 d6_13 rfl rfl <| oi 17 X1 d6_15 rfl rfl <| o_sipush 20 (v := 255) X1 d6_17 rfl (by decide) <| oY 26 X1 d6_20 (by decide) (flt rg_pi1.2).2.2.2 <| oA 27 X1 d6_26 rfl rfl <| oI 28 X1 d6_27 rfl rfl <| oi 30 X1 d6_28 rfl rfl <| o_i2b 31 (v := (pi1.toInt8.toInt32)) X1 d6_30 rfl rfl ?_
  have f5 := C1.safe (own_lt (by omega)) sf_pa2
  refine sB 32 1 (pi1.toInt8.toInt32) X1 V2 (by decide) (lb rfl) (own_narB _) d6_31 rfl (by omega) (Or.inl (by simp)) f5 ?_
  rintro _ _ X4 ⟨_, _, W4⟩ _ V4
  have := W4.size
  have V6 := V4.as [.int 47, .int (pi1.toInt8.toInt32), i0, i0] rfl
  refine oJ 35 2 #[rr pa1, ii 2, rr pa2, ii 1, ii 4, ii 1, ii pi1] X4 d6_32 rfl rfl (by decide) rfl <| oJ 38 2 #[rr pa1, ii 2, rr pa2, ii 2, ii 4, ii 1, ii pi1] X4 d6_35 rfl rfl (by decide) rfl <| oJ 41 2 #[rr pa1, ii 2, rr pa2, ii 2, ii 4, ii 2, ii pi1] X4 d6_38 rfl rfl (by decide) rfl <| og 3 X4 d6_41 (by decide) <| oi 5 X4 d6_3 rfl rfl <| oi 7 X4 d6_5 rfl rfl <| oN 10 X4 d6_7 rfl (tlt (by decide)).2.1 <| oA 11 X4 d6_10 rfl rfl <| oI 12 X4 d6_11 rfl rfl ?_
  have f7 := f3.oth W4 (by omega)
  refine oC 13 (v := (.int pi2)) X4 f7 ⟨by decide, by decide⟩ rfl d6_12 rfl <| oS 15 (l' := #[rr pa1, ii 2, rr pa2, ii 2, ii 4, ii 2, ii pi2]) X4 d6_13 rfl rfl <| oi 17 X4 d6_15 rfl rfl <| o_sipush 20 (v := 255) X4 d6_17 rfl (by decide) <| oN 23 X4 d6_20 rfl (tlt bg_pi2.1).2.2.2 <| oi 25 X4 d6_23 rfl rfl ?_
  have f8 := (F2.wr W1).wr W4
  exact o_iret X4 d6_25 rfl (by decide) (by decide) (fun _ CC => ⟨rfl, V6, f8⟩)
theorem rm_au216 (G : GL l Z a0 zc fmt kpp) (F0 : av1 Z h0 pa1 pk1 4 [.int 47, .int pi1, .int pi2, .int pi3]) (rg_pi1 : ¬ pi1 < 0 ∧ ¬ (255 : Int32) < pi1) (bg_pi2 : (255 : Int32) < pi2 ∧ ¬ (65535 : Int32) < pi2) : M36 l Z 2 1 8 24 #[.ref pa1, i0, .int 4] h0 n0 [] [] (Q92 Z pi1 pi2 pi3 h0) := by
  refine mi B36 ef13 (hEW G) fun s X0 hsf0 n0le => ?_
  have := F0.l
  refine oI 1 X0 d36_0 rfl rfl <| mS 4 0 X0 (rm_au51 G ) (u35 G) all0 d36_1 rfl rfl rfl lr (by decide) all0 ?_
  rintro _ _ _ _ X1 ⟨xa1_2, xk1_3, rfl, q4, q5, q6, _⟩ K1 _ _
  refine oV 5 (l' := #[rr pa1, ii 0, ii 4, rr xa1_2, uu]) X1 d36_4 rfl rfl rfl <| oc 6 (v := 0) X1 d36_5 rfl (by decide) <| oS 8 (l' := #[rr pa1, ii 0, ii 4, rr xa1_2, ii 0]) X1 d36_6 rfl rfl <| oi 10 X1 d36_8 rfl rfl <| oI 11 X1 d36_10 rfl rfl <| oN 14 X1 d36_11 rfl (tlt (by decide)).2.1 <| oA 15 X1 d36_14 rfl rfl <| oi 17 X1 d36_15 rfl rfl <| oA 18 X1 d36_17 rfl rfl <| oI 19 X1 d36_18 rfl rfl ?_
  have f8 := F0.k0 K1
  refine oC 20 (v := (.int 47)) X1 f8 ⟨by decide, by decide⟩ rfl d36_19 rfl <| mS 23 0 X1 (rm_putChar G q5 q4 ⟨by decide, by decide⟩ ⟨by decide, by decide⟩ (Nat.le_of_ble_eq_true rfl) (Nat.le_of_ble_eq_true rfl) (by omega)) (u36 G) (sS (by omega) q6 all0) d36_20 rfl rfl rfl lr (by decide) (aR (by omega) all0) ?_
  rintro _ _ _ _ X9 ⟨rfl, q10, q11⟩ K9 _ C9
  have V12 := q11.as [.int 47, i0, i0, i0, i0, i0, i0, i0] rfl
  refine oJ 26 1 #[rr pa1, ii 1, ii 4, rr xa1_2, ii 0] X9 d36_23 rfl rfl (by decide) rfl <| oJ 29 1 #[rr pa1, ii 1, ii 4, rr xa1_2, ii 1] X9 d36_26 rfl rfl (by decide) rfl <| og 8 X9 d36_29 (by decide) <| oi 10 X9 d36_8 rfl rfl <| oI 11 X9 d36_10 rfl rfl <| oN 14 X9 d36_11 rfl (tlt (by decide)).2.1 <| oA 15 X9 d36_14 rfl rfl <| oi 17 X9 d36_15 rfl rfl <| oA 18 X9 d36_17 rfl rfl <| oI 19 X9 d36_18 rfl rfl ?_
  have f13 := f8.k1 K9 (by omega)
  refine oC 20 (v := (.int pi1)) X9 f13 ⟨by decide, by decide⟩ rfl d36_19 rfl ?_
  have f14 := C9.safe (own_lt (by omega)) q6
  refine mS 23 0 X9 (rm_putChar G q10 V12 ⟨by decide, by decide⟩ ⟨by decide, by decide⟩ (Nat.le_of_ble_eq_true rfl) (Nat.le_of_ble_eq_true rfl) (by omega)) (u36 G) (sS (by omega) f14 all0) d36_20 rfl rfl rfl lr (by decide) (aR (by omega) all0) ?_
  rintro _ _ _ _ X15 ⟨rfl, q16, q17⟩ K15 _ C15
  have V18 := q17.as [.int 47, i0, .int ((pi1 >>> ((0 : Int32) &&& 31)).toInt8.toInt32), .int ((pi1 >>> ((8 : Int32) &&& 31)).toInt8.toInt32), i0, i0, i0, i0] rfl
  refine oJ 26 2 #[rr pa1, ii 2, ii 4, rr xa1_2, ii 1] X15 d36_23 rfl rfl (by decide) rfl <| oJ 29 2 #[rr pa1, ii 2, ii 4, rr xa1_2, ii 2] X15 d36_26 rfl rfl (by decide) rfl <| og 8 X15 d36_29 (by decide) <| oi 10 X15 d36_8 rfl rfl <| oI 11 X15 d36_10 rfl rfl <| oN 14 X15 d36_11 rfl (tlt (by decide)).2.1 <| oA 15 X15 d36_14 rfl rfl <| oi 17 X15 d36_15 rfl rfl <| oA 18 X15 d36_17 rfl rfl <| oI 19 X15 d36_18 rfl rfl ?_
  have f19 := f13.k1 K15 (by omega)
  refine oC 20 (v := (.int pi2)) X15 f19 ⟨by decide, by decide⟩ rfl d36_19 rfl ?_
  have f20 := C15.safe (own_lt (by omega)) f14
  refine mS 23 0 X15 (rm_putChar G q16 V18 ⟨by decide, by decide⟩ ⟨by decide, by decide⟩ (Nat.le_of_ble_eq_true rfl) (Nat.le_of_ble_eq_true rfl) (by omega)) (u36 G) (sS (by omega) f20 all0) d36_20 rfl rfl rfl lr (by decide) (aR (by omega) all0) ?_
  rintro _ _ _ _ X21 ⟨rfl, q22, q23⟩ K21 _ C21
  have V24 := q23.as [.int 47, i0, .int ((pi1 >>> ((0 : Int32) &&& 31)).toInt8.toInt32), .int ((pi1 >>> ((8 : Int32) &&& 31)).toInt8.toInt32), .int ((pi2 >>> ((0 : Int32) &&& 31)).toInt8.toInt32), .int ((pi2 >>> ((8 : Int32) &&& 31)).toInt8.toInt32), i0, i0] rfl
  refine oJ 26 3 #[rr pa1, ii 3, ii 4, rr xa1_2, ii 2] X21 d36_23 rfl rfl (by decide) rfl <| oJ 29 3 #[rr pa1, ii 3, ii 4, rr xa1_2, ii 3] X21 d36_26 rfl rfl (by decide) rfl <| og 8 X21 d36_29 (by decide) <| oi 10 X21 d36_8 rfl rfl <| oI 11 X21 d36_10 rfl rfl <| oN 14 X21 d36_11 rfl (tlt (by decide)).2.1 <| oA 15 X21 d36_14 rfl rfl <| oi 17 X21 d36_15 rfl rfl <| oA 18 X21 d36_17 rfl rfl <| oI 19 X21 d36_18 rfl rfl ?_
  have f25 := f19.k1 K21 (by omega)
  refine oC 20 (v := (.int pi3)) X21 f25 ⟨by decide, by decide⟩ rfl d36_19 rfl ?_
  have f26 := C21.safe (own_lt (by omega)) f20
  refine mS 23 0 X21 (rm_putChar G q22 V24 ⟨by decide, by decide⟩ ⟨by decide, by decide⟩ (Nat.le_of_ble_eq_true rfl) (Nat.le_of_ble_eq_true rfl) (by omega)) (u36 G) (sS (by omega) f26 all0) d36_20 rfl rfl rfl lr (by decide) (aR (by omega) all0) ?_
  rintro _ _ _ _ X27 ⟨rfl, q28, q29⟩ _ _ C27
  have V30 := q29.as [.int 47, i0, .int ((pi1 >>> ((0 : Int32) &&& 31)).toInt8.toInt32), .int ((pi1 >>> ((8 : Int32) &&& 31)).toInt8.toInt32), .int ((pi2 >>> ((0 : Int32) &&& 31)).toInt8.toInt32), .int ((pi2 >>> ((8 : Int32) &&& 31)).toInt8.toInt32), .int ((pi3 >>> ((0 : Int32) &&& 31)).toInt8.toInt32), .int ((pi3 >>> ((8 : Int32) &&& 31)).toInt8.toInt32)] rfl
  refine oJ 26 4 #[rr pa1, ii 4, ii 4, rr xa1_2, ii 3] X27 d36_23 rfl rfl (by decide) rfl <| oJ 29 4 #[rr pa1, ii 4, ii 4, rr xa1_2, ii 4] X27 d36_26 rfl rfl (by decide) rfl <| og 8 X27 d36_29 (by decide) <| oi 10 X27 d36_8 rfl rfl <| oI 11 X27 d36_10 rfl rfl <| oY 32 X27 d36_11 (by decide) (flt (by decide)).2.1 <| oA 33 X27 d36_32 rfl rfl ?_
  have f31 := C27.safe (own_lt (by omega)) f26
  exact oR X27 d36_33 rfl rfl rfl (by decide) (by decide) (fun _ CC => ⟨xa1_2, xk1_3, rfl, V30, q28, (CC.safe (own_lt (by omega)) f31), by omega⟩)
theorem rm_au217 (G : GL l Z a0 zc fmt kpp) (F0 : av1 Z h0 pa1 pk1 4 [.int 47, .int pi1, .int pi2, .int pi3]) (rg_pi1 : ¬ pi1 < 0 ∧ ¬ (255 : Int32) < pi1) (bg_pi2 : (255 : Int32) < pi2 ∧ ¬ (65535 : Int32) < pi2) : M5 l Z 3 2 12 40 #[.ref pa1, i0, .int 4] h0 n0 [] [] (Q92 Z pi1 pi2 pi3 h0) := by
  refine mi B5 ef5 (hEW G) fun s X0 hsf0 n0le => ?_
  have l1 := F0.l
  refine oI 1 X0 d5_0 rfl rfl <| nP (aty := .byte) 3 4 X0 (w16 G) d5_1 rfl (by decide) had_byte ?_
  intro _ h1 b1 k1 X1 _ l1 E1 V1 A1 _ S1
  have V2 : av0 Z h1 b1 k1 4 [i0, i0, i0, i0] := V1.pad (pad_rep [] (.int (0 : Int32)) 4)
  refine oV 4 (l' := #[rr pa1, ii 0, ii 4, rr b1, uu, uu]) X1 d5_3 rfl rfl rfl <| oA 5 X1 d5_4 rfl rfl <| oI 6 X1 d5_5 rfl rfl <| oA 7 X1 d5_6 rfl rfl <| oc 8 (v := 0) X1 d5_7 rfl (by decide) <| oI 9 X1 d5_8 rfl rfl ?_
  have f3 := F0.ext E1
  refine mS 12 0 X1 (rm_au215 G f3 V2 A1 rg_pi1 bg_pi2 (by omega)) (u2 G) (sS (by omega) S1 all0) d5_9 rfl rfl rfl lr (by decide) (aR (by omega) all0) ?_
  rintro _ _ _ _ X4 ⟨rfl, _, _⟩ K4 _ _
  refine oS 14 (l' := #[rr pa1, ii 0, ii 4, rr b1, ii 2, uu]) X4 d5_12 rfl rfl <| oi 16 X4 d5_14 rfl rfl <| oI 17 X4 d5_16 rfl rfl <| oN 20 X4 d5_17 rfl (feq (by decide)).1 <| oA 21 X4 d5_20 rfl rfl <| oI 22 X4 d5_21 rfl rfl <| oI 23 X4 d5_22 rfl rfl ?_
  have f7 := f3.k1 K4 (by omega)
  refine mS 26 0 X4 (rm_au216 G f7 rg_pi1 bg_pi2) (u37 G) all0 d5_23 rfl rfl rfl lr (by decide) all0 ?_
  rintro _ _ _ _ X8 ⟨xa1_9, xk1_10, rfl, q11, q12, q13, _⟩ _ _ _
  refine oU 28 (l' := #[rr pa1, ii 0, ii 4, rr b1, ii 2, rr xa1_9]) X8 d5_26 rfl rfl rfl <| oa 30 X8 d5_28 rfl rfl <| oi 32 X8 d5_30 rfl rfl <| mS 35 0 X8 (rm_getChar G q11 ⟨by decide, by decide⟩ ⟨by decide, by decide⟩ rfl rfl) (u38 G) all0 d5_32 rfl rfl rfl lr (by decide) all0 ?_
  rintro _ _ _ _ X15 rfl K15 _ C15
  refine o_sipush 38 (v := 255) X15 d5_35 rfl (by decide) <| oY 54 X15 d5_38 (by decide) (tlt (by rw [own_gcE bg_pi2]; exact bg_pi2.1)).2.2.1 <| oa 56 X15 d5_54 rfl rfl ?_
  have f16 := q11.k0 K15
  have f17 := q12.keep K15
  have f18 := C15.safe (own_lt (by omega)) q13
  exact oR X15 d5_56 rfl rfl rfl (by decide) (by decide) (fun _ CC => ⟨xa1_9, xk1_10, rfl, f16, f17, (CC.safe (own_lt (by omega)) f18), by omega⟩)
theorem rm_au218 (G : GL l Z a0 zc fmt kpp) (F0 : ex1 Z h0 pa1) (F1 : fd1 Z h0 pa1 (.int 0)) (F2 : fd0 Z h0 pa1 .null) (F3 : av1 Z h0 pa2 pk1 4 [.int 47, .int pi1, .int pi2, .int pi3]) (rg_pi1 : ¬ pi1 < 0 ∧ ¬ (255 : Int32) < pi1) (bg_pi2 : (255 : Int32) < pi2 ∧ ¬ (65535 : Int32) < pi2) (ne : NE pa1 pa2 ∧ n0 ≤ pa1) : M4 l Z 4 2 12 57 #[.ref pa1, .ref pa2, i0, .int 4, .null] h0 n0 [pa1] [pa1] (Q93 Z pa1 pi1 pi2 pi3 h0) := by
  refine mi B4 ef4 (hEW G) fun s X0 hsf0 n0le => ?_
  have := F0.l
  have := F3.l
  have sf_pa1 := hsf0 pa1 (by simp)
  refine oA 1 X0 d4_0 rfl rfl <| o_initO 4 (W := 0) X0 (w12 G) (w13 G) (w14 G) rfl (by decide) (Nat.le_of_eq rfl) (by decide) d4_1 rfl ?_
  intro _ X2
  refine oI 5 X2 d4_4 rfl rfl <| oy 27 X2 d4_5 (by decide) ((if0 _ _).trans (feq (by decide)).2) <| oG 30 X2 (w23 G) Via.refl ((sg5 G).ext X2.old.2) d4_27 rfl ?_
  intro _ X4
  refine on 33 X4 d4_30 rfl ((if0 _ _).trans (feq (hzc G)).1) <| oA 34 X4 d4_33 rfl rfl <| oI 35 X4 d4_34 rfl rfl <| oI 36 X4 d4_35 rfl rfl <| mS 39 0 X4 (rm_au217 G F3 rg_pi1 bg_pi2) (u3 G) all0 d4_36 rfl rfl rfl lr (by decide) all0 ?_
  rintro _ _ _ _ X5 ⟨xa1_6, xk1_7, rfl, q8, q9, q10, _⟩ K5 _ C5
  refine oU 41 (l' := #[rr pa1, rr pa2, ii 0, ii 4, .val .null, rr xa1_6]) X5 d4_39 rfl rfl rfl <| oA 42 X5 d4_41 rfl rfl <| oa 44 X5 d4_42 rfl rfl <| oI 45 X5 d4_44 rfl rfl <| mS 48 1 X5 (rm_au54 G q8) (u4 G) all0 d4_45 rfl rfl rfl lr (by decide) all0 ?_
  rintro _ _ _ _ X12 rfl K12 _ C12
  have f13 := (F1.k0 K5).k0 K12
  have f14 := (F0.keep K5).keep K12
  have f16 := C12.safe (own_lt (by omega)) (C5.safe (own_lt (by omega)) sf_pa1)
  refine oP 51 (v' := (.int 1)) X12 (w22 G) Via.refl f13 f14 (Or.inr ⟨(w18 G), rfl, rfl⟩) (w2 G) fd_1 rfl rfl d4_48 rfl (by omega) (Or.inl (by simp)) f16 ?_
  intro _ _ X15 W15 C15
  have := W15.size
  have f17 := f13.same W15
  refine oA 52 X15 d4_51 rfl rfl <| oa 54 X15 d4_52 rfl rfl ?_
  have f18 := ((F2.k0 K5).k0 K12).other W15 (Or.inr (sn1 G))
  have f19 := f14.wr W15
  have f21 := C15.safe (own_lt (by omega)) f16
  refine oP 57 (v' := (.ref xa1_6)) X15 (w21 G) Via.refl f18 f19 (Or.inr ⟨(w17 G), rfl, rfl⟩) (w2 G) fd_0 rfl rfl d4_54 rfl (by omega) (Or.inl (by simp)) f21 ?_
  intro _ _ X20 W20 C20
  have := W20.size
  have f22 := f18.same W20
  have f23 := f19.wr W20
  have f24 := f17.other W20 (Or.inr (sn0 G))
  have f25 := ((q8.k0 K12).oth W15 (by omega)).oth W20 (by omega)
  have f26 := ((q9.keep K12).wr W15).wr W20
  have f27 := C20.safe (own_lt (by omega)) (C15.safe (own_lt (by omega)) (C12.safe (own_lt (by omega)) q10))
  exact oz X20 d4_57 rfl (by decide) (by decide) (fun _ CC => ⟨xa1_6, xk1_7, rfl, f23, f24, f22, f25, f26, (CC.safe (own_lt (by omega)) f27), by omega⟩)
theorem rm_au219 (G : GL l Z a0 zc fmt kpp) (F0 : ex1 Z h0 pa1) (F1 : fd1 Z h0 pa1 (.int 0)) (F2 : fd0 Z h0 pa1 .null) (F3 : av1 Z h0 pa2 pk1 4 [.int 47, .int pi1, .int pi2, .int pi3]) (rg_pi1 : ¬ pi1 < 0 ∧ ¬ (255 : Int32) < pi1) (bg_pi2 : (255 : Int32) < pi2 ∧ ¬ (65535 : Int32) < pi2) (ne : NE pa1 pa2 ∧ n0 ≤ pa1) : M3 l Z 5 2 12 74 #[.ref pa1, .ref pa2] h0 n0 [pa1] [pa1] (Q93 Z pa1 pi1 pi2 pi3 h0) := by
  refine mi B3 ef3 (hEW G) fun s X0 hsf0 n0le => ?_
  have := F0.l
  have := F3.l
  have sf_pa1 := hsf0 pa1 (by simp)
  refine oA 1 X0 d3_0 rfl rfl <| oA 2 X0 d3_1 rfl rfl <| oc 3 (v := 0) X0 d3_2 rfl (by decide) <| oA 4 X0 d3_3 rfl rfl <| oL 5 X0 F3 d3_4 rfl <| o_aconstNull 6 X0 d3_5 rfl <| mP 9 0 X0 (rm_au218 G F0 F1 F2 F3 rg_pi1 bg_pi2 (by omega)) (u0 G) (sS (by omega) sf_pa1 all0) d3_6 rfl rfl rfl lr (by decide) (aI (by omega) (by simp) all0) ?_
  rintro _ _ _ _ X1 ⟨xa1_2, xk1_3, rfl, q4, q5, q6, q7, q8, q9, _⟩ _ _ _
  exact oz X1 d3_9 rfl (by decide) (by decide) (fun _ CC => ⟨xa1_2, xk1_3, rfl, q4, q5, q6, q7, q8, (CC.safe (own_lt (by omega)) q9), by omega⟩)
def Q109 (Z : State) (b1 : Addr) (b2 : ClassId) (b3 : Int32) (h0 : Heap) (v : Option Value) (h : Heap) (vm : Vm) : Prop := v = some (.int 2) ∧ av0 Z h b1 b2 6 [.int 47, .int (b3.toInt8.toInt32), i0, i0, i0, i0] ∧ ex0 Z h b1
theorem rm_au220 (G : GL l Z a0 zc fmt kpp) (F0 : av1 Z h0 pa1 pk1 6 [.int 47, .int pi1, .int pi2, .int pi3, .int 47, .int 42]) (F1 : av0 Z h0 pa2 pk2 6 [i0, i0, i0, i0, i0, i0]) (F2 : ex0 Z h0 pa2) (rg_pi1 : ¬ pi1 < 0 ∧ ¬ (255 : Int32) < pi1) (bg_pi2 : (255 : Int32) < pi2 ∧ ¬ (65535 : Int32) < pi2) (ne : NE pa1 pa2 ∧ n0 ≤ pa2) : M6 l Z 0 0 0 0 #[.ref pa1, i0, .ref pa2, i0, .int 6] h0 n0 [pa2] [pa2] (Q109 Z pa2 pk2 pi1 h0) := by
  refine mi B6 ef6 (hEW G) fun s X0 hsf0 n0le => ?_
  have := F0.l
  have := F1.l
  have sf_pa2 := hsf0 pa2 (by simp)
  refine oc 1 (v := 0) X0 d6_0 rfl (by decide) <| oS 3 (l' := #[rr pa1, ii 0, rr pa2, ii 0, ii 6, ii 0, uu]) X0 d6_1 rfl rfl <| oi 5 X0 d6_3 rfl rfl <| oi 7 X0 d6_5 rfl rfl <| oN 10 X0 d6_7 rfl (tlt (by decide)).2.1 <| oA 11 X0 d6_10 rfl rfl <| oI 12 X0 d6_11 rfl rfl <| oC 13 (v := (.int 47)) X0 F0 ⟨by decide, by decide⟩ rfl d6_12 rfl <| oS 15 (l' := #[rr pa1, ii 0, rr pa2, ii 0, ii 6, ii 0, ii 47]) X0 d6_13 rfl rfl <| oi 17 X0 d6_15 rfl rfl <| o_sipush 20 (v := 255) X0 d6_17 rfl (by decide) <| oY 26 X0 d6_20 (by decide) (flt (by decide)).2.2.2 ?_
  refine oA 27 X0 d6_26 rfl rfl <| oI 28 X0 d6_27 rfl rfl <| oi 30 X0 d6_28 rfl rfl <| o_i2b 31 (v := 47) X0 d6_30 rfl (by decide) <| sB 32 0 47 X0 F1 (by decide) (lb rfl) (by decide) d6_31 rfl (by omega) (Or.inl (by simp)) sf_pa2 ?_
  rintro _ _ X1 ⟨_, _, W1⟩ C1 V1
  have := W1.size
  have V2 := V1.as [.int 47, i0, i0, i0, i0, i0] rfl
  refine oJ 35 1 #[rr pa1, ii 1, rr pa2, ii 0, ii 6, ii 0, ii 47] X1 d6_32 rfl rfl (by decide) rfl <| oJ 38 1 #[rr pa1, ii 1, rr pa2, ii 1, ii 6, ii 0, ii 47] X1 d6_35 rfl rfl (by decide) rfl <| oJ 41 1 #[rr pa1, ii 1, rr pa2, ii 1, ii 6, ii 1, ii 47] X1 d6_38 rfl rfl (by decide) rfl <| og 3 X1 d6_41 (by decide) <| oi 5 X1 d6_3 rfl rfl <| oi 7 X1 d6_5 rfl rfl <| oN 10 X1 d6_7 rfl (tlt (by decide)).2.1 <| oA 11 X1 d6_10 rfl rfl <| oI 12 X1 d6_11 rfl rfl ?_
  have f3 := F0.oth W1 (by omega)
  refine oC 13 (v := (.int pi1)) X1 f3 ⟨by decide, by decide⟩ rfl d6_12 rfl <| oS 15 (l' := #[rr pa1, ii 1, rr pa2, ii 1, ii 6, ii 1, ii pi1]) X1 d6_13 rfl rfl <| oi 17 X1 d6_15 rfl rfl <| o_sipush 20 (v := 255) X1 d6_17 rfl (by decide) <| oY 26 X1 d6_20 (by decide) (flt rg_pi1.2).2.2.2 <| oA 27 X1 d6_26 rfl rfl <| oI 28 X1 d6_27 rfl rfl <| oi 30 X1 d6_28 rfl rfl <| o_i2b 31 (v := (pi1.toInt8.toInt32)) X1 d6_30 rfl rfl ?_
  have f5 := C1.safe (own_lt (by omega)) sf_pa2
  refine sB 32 1 (pi1.toInt8.toInt32) X1 V2 (by decide) (lb rfl) (own_narB _) d6_31 rfl (by omega) (Or.inl (by simp)) f5 ?_
  rintro _ _ X4 ⟨_, _, W4⟩ _ V4
  have := W4.size
  have V6 := V4.as [.int 47, .int (pi1.toInt8.toInt32), i0, i0, i0, i0] rfl
  refine oJ 35 2 #[rr pa1, ii 2, rr pa2, ii 1, ii 6, ii 1, ii pi1] X4 d6_32 rfl rfl (by decide) rfl <| oJ 38 2 #[rr pa1, ii 2, rr pa2, ii 2, ii 6, ii 1, ii pi1] X4 d6_35 rfl rfl (by decide) rfl <| oJ 41 2 #[rr pa1, ii 2, rr pa2, ii 2, ii 6, ii 2, ii pi1] X4 d6_38 rfl rfl (by decide) rfl <| og 3 X4 d6_41 (by decide) <| oi 5 X4 d6_3 rfl rfl <| oi 7 X4 d6_5 rfl rfl <| oN 10 X4 d6_7 rfl (tlt (by decide)).2.1 <| oA 11 X4 d6_10 rfl rfl <| oI 12 X4 d6_11 rfl rfl ?_
  have f7 := f3.oth W4 (by omega)
  refine oC 13 (v := (.int pi2)) X4 f7 ⟨by decide, by decide⟩ rfl d6_12 rfl <| oS 15 (l' := #[rr pa1, ii 2, rr pa2, ii 2, ii 6, ii 2, ii pi2]) X4 d6_13 rfl rfl <| oi 17 X4 d6_15 rfl rfl <| o_sipush 20 (v := 255) X4 d6_17 rfl (by decide) <| oN 23 X4 d6_20 rfl (tlt bg_pi2.1).2.2.2 <| oi 25 X4 d6_23 rfl rfl ?_
  have f8 := (F2.wr W1).wr W4
  exact o_iret X4 d6_25 rfl (by decide) (by decide) (fun _ CC => ⟨rfl, V6, f8⟩)
theorem rm_au221 (G : GL l Z a0 zc fmt kpp) (F0 : av1 Z h0 pa1 pk1 6 [.int 47, .int pi1, .int pi2, .int pi3, .int 47, .int 42]) (rg_pi1 : ¬ pi1 < 0 ∧ ¬ (255 : Int32) < pi1) (bg_pi2 : (255 : Int32) < pi2 ∧ ¬ (65535 : Int32) < pi2) : M36 l Z 2 1 12 24 #[.ref pa1, i0, .int 6] h0 n0 [] [] (Q97 Z pi1 pi2 pi3 h0) := by
  refine mi B36 ef13 (hEW G) fun s X0 hsf0 n0le => ?_
  have := F0.l
  refine oI 1 X0 d36_0 rfl rfl <| mS 4 0 X0 (rm_au190 G ) (u35 G) all0 d36_1 rfl rfl rfl lr (by decide) all0 ?_
  rintro _ _ _ _ X1 ⟨xa1_2, xk1_3, rfl, q4, q5, q6, _⟩ K1 _ _
  refine oV 5 (l' := #[rr pa1, ii 0, ii 6, rr xa1_2, uu]) X1 d36_4 rfl rfl rfl <| oc 6 (v := 0) X1 d36_5 rfl (by decide) <| oS 8 (l' := #[rr pa1, ii 0, ii 6, rr xa1_2, ii 0]) X1 d36_6 rfl rfl <| oi 10 X1 d36_8 rfl rfl <| oI 11 X1 d36_10 rfl rfl <| oN 14 X1 d36_11 rfl (tlt (by decide)).2.1 <| oA 15 X1 d36_14 rfl rfl <| oi 17 X1 d36_15 rfl rfl <| oA 18 X1 d36_17 rfl rfl <| oI 19 X1 d36_18 rfl rfl ?_
  have f8 := F0.k0 K1
  refine oC 20 (v := (.int 47)) X1 f8 ⟨by decide, by decide⟩ rfl d36_19 rfl <| mS 23 0 X1 (rm_putChar G q5 q4 ⟨by decide, by decide⟩ ⟨by decide, by decide⟩ (Nat.le_of_ble_eq_true rfl) (Nat.le_of_ble_eq_true rfl) (by omega)) (u36 G) (sS (by omega) q6 all0) d36_20 rfl rfl rfl lr (by decide) (aR (by omega) all0) ?_
  rintro _ _ _ _ X9 ⟨rfl, q10, q11⟩ K9 _ C9
  have V12 := q11.as [.int 47, i0, i0, i0, i0, i0, i0, i0, i0, i0, i0, i0] rfl
  refine oJ 26 1 #[rr pa1, ii 1, ii 6, rr xa1_2, ii 0] X9 d36_23 rfl rfl (by decide) rfl <| oJ 29 1 #[rr pa1, ii 1, ii 6, rr xa1_2, ii 1] X9 d36_26 rfl rfl (by decide) rfl <| og 8 X9 d36_29 (by decide) <| oi 10 X9 d36_8 rfl rfl <| oI 11 X9 d36_10 rfl rfl <| oN 14 X9 d36_11 rfl (tlt (by decide)).2.1 <| oA 15 X9 d36_14 rfl rfl <| oi 17 X9 d36_15 rfl rfl <| oA 18 X9 d36_17 rfl rfl <| oI 19 X9 d36_18 rfl rfl ?_
  have f13 := f8.k1 K9 (by omega)
  refine oC 20 (v := (.int pi1)) X9 f13 ⟨by decide, by decide⟩ rfl d36_19 rfl ?_
  have f14 := C9.safe (own_lt (by omega)) q6
  refine mS 23 0 X9 (rm_putChar G q10 V12 ⟨by decide, by decide⟩ ⟨by decide, by decide⟩ (Nat.le_of_ble_eq_true rfl) (Nat.le_of_ble_eq_true rfl) (by omega)) (u36 G) (sS (by omega) f14 all0) d36_20 rfl rfl rfl lr (by decide) (aR (by omega) all0) ?_
  rintro _ _ _ _ X15 ⟨rfl, q16, q17⟩ K15 _ C15
  have V18 := q17.as [.int 47, i0, .int ((pi1 >>> ((0 : Int32) &&& 31)).toInt8.toInt32), .int ((pi1 >>> ((8 : Int32) &&& 31)).toInt8.toInt32), i0, i0, i0, i0, i0, i0, i0, i0] rfl
  refine oJ 26 2 #[rr pa1, ii 2, ii 6, rr xa1_2, ii 1] X15 d36_23 rfl rfl (by decide) rfl <| oJ 29 2 #[rr pa1, ii 2, ii 6, rr xa1_2, ii 2] X15 d36_26 rfl rfl (by decide) rfl <| og 8 X15 d36_29 (by decide) <| oi 10 X15 d36_8 rfl rfl <| oI 11 X15 d36_10 rfl rfl <| oN 14 X15 d36_11 rfl (tlt (by decide)).2.1 <| oA 15 X15 d36_14 rfl rfl <| oi 17 X15 d36_15 rfl rfl <| oA 18 X15 d36_17 rfl rfl <| oI 19 X15 d36_18 rfl rfl ?_
  have f19 := f13.k1 K15 (by omega)
  refine oC 20 (v := (.int pi2)) X15 f19 ⟨by decide, by decide⟩ rfl d36_19 rfl ?_
  have f20 := C15.safe (own_lt (by omega)) f14
  refine mS 23 0 X15 (rm_putChar G q16 V18 ⟨by decide, by decide⟩ ⟨by decide, by decide⟩ (Nat.le_of_ble_eq_true rfl) (Nat.le_of_ble_eq_true rfl) (by omega)) (u36 G) (sS (by omega) f20 all0) d36_20 rfl rfl rfl lr (by decide) (aR (by omega) all0) ?_
  rintro _ _ _ _ X21 ⟨rfl, q22, q23⟩ K21 _ C21
  have V24 := q23.as [.int 47, i0, .int ((pi1 >>> ((0 : Int32) &&& 31)).toInt8.toInt32), .int ((pi1 >>> ((8 : Int32) &&& 31)).toInt8.toInt32), .int ((pi2 >>> ((0 : Int32) &&& 31)).toInt8.toInt32), .int ((pi2 >>> ((8 : Int32) &&& 31)).toInt8.toInt32), i0, i0, i0, i0, i0, i0] rfl
  refine oJ 26 3 #[rr pa1, ii 3, ii 6, rr xa1_2, ii 2] X21 d36_23 rfl rfl (by decide) rfl <| oJ 29 3 #[rr pa1, ii 3, ii 6, rr xa1_2, ii 3] X21 d36_26 rfl rfl (by decide) rfl <| og 8 X21 d36_29 (by decide) <| oi 10 X21 d36_8 rfl rfl <| oI 11 X21 d36_10 rfl rfl <| oN 14 X21 d36_11 rfl (tlt (by decide)).2.1 <| oA 15 X21 d36_14 rfl rfl <| oi 17 X21 d36_15 rfl rfl <| oA 18 X21 d36_17 rfl rfl <| oI 19 X21 d36_18 rfl rfl ?_
  have f25 := f19.k1 K21 (by omega)
  refine oC 20 (v := (.int pi3)) X21 f25 ⟨by decide, by decide⟩ rfl d36_19 rfl ?_
  have f26 := C21.safe (own_lt (by omega)) f20
  refine mS 23 0 X21 (rm_putChar G q22 V24 ⟨by decide, by decide⟩ ⟨by decide, by decide⟩ (Nat.le_of_ble_eq_true rfl) (Nat.le_of_ble_eq_true rfl) (by omega)) (u36 G) (sS (by omega) f26 all0) d36_20 rfl rfl rfl lr (by decide) (aR (by omega) all0) ?_
  rintro _ _ _ _ X27 ⟨rfl, q28, q29⟩ K27 _ C27
  have V30 := q29.as [.int 47, i0, .int ((pi1 >>> ((0 : Int32) &&& 31)).toInt8.toInt32), .int ((pi1 >>> ((8 : Int32) &&& 31)).toInt8.toInt32), .int ((pi2 >>> ((0 : Int32) &&& 31)).toInt8.toInt32), .int ((pi2 >>> ((8 : Int32) &&& 31)).toInt8.toInt32), .int ((pi3 >>> ((0 : Int32) &&& 31)).toInt8.toInt32), .int ((pi3 >>> ((8 : Int32) &&& 31)).toInt8.toInt32), i0, i0, i0, i0] rfl
  refine oJ 26 4 #[rr pa1, ii 4, ii 6, rr xa1_2, ii 3] X27 d36_23 rfl rfl (by decide) rfl <| oJ 29 4 #[rr pa1, ii 4, ii 6, rr xa1_2, ii 4] X27 d36_26 rfl rfl (by decide) rfl <| og 8 X27 d36_29 (by decide) <| oi 10 X27 d36_8 rfl rfl <| oI 11 X27 d36_10 rfl rfl <| oN 14 X27 d36_11 rfl (tlt (by decide)).2.1 <| oA 15 X27 d36_14 rfl rfl <| oi 17 X27 d36_15 rfl rfl <| oA 18 X27 d36_17 rfl rfl <| oI 19 X27 d36_18 rfl rfl ?_
  have f31 := f25.k1 K27 (by omega)
  refine oC 20 (v := (.int 47)) X27 f31 ⟨by decide, by decide⟩ rfl d36_19 rfl ?_
  have f32 := C27.safe (own_lt (by omega)) f26
  refine mS 23 0 X27 (rm_putChar G q28 V30 ⟨by decide, by decide⟩ ⟨by decide, by decide⟩ (Nat.le_of_ble_eq_true rfl) (Nat.le_of_ble_eq_true rfl) (by omega)) (u36 G) (sS (by omega) f32 all0) d36_20 rfl rfl rfl lr (by decide) (aR (by omega) all0) ?_
  rintro _ _ _ _ X33 ⟨rfl, q34, q35⟩ K33 _ C33
  have V36 := q35.as [.int 47, i0, .int ((pi1 >>> ((0 : Int32) &&& 31)).toInt8.toInt32), .int ((pi1 >>> ((8 : Int32) &&& 31)).toInt8.toInt32), .int ((pi2 >>> ((0 : Int32) &&& 31)).toInt8.toInt32), .int ((pi2 >>> ((8 : Int32) &&& 31)).toInt8.toInt32), .int ((pi3 >>> ((0 : Int32) &&& 31)).toInt8.toInt32), .int ((pi3 >>> ((8 : Int32) &&& 31)).toInt8.toInt32), .int 47, i0, i0, i0] rfl
  refine oJ 26 5 #[rr pa1, ii 5, ii 6, rr xa1_2, ii 4] X33 d36_23 rfl rfl (by decide) rfl <| oJ 29 5 #[rr pa1, ii 5, ii 6, rr xa1_2, ii 5] X33 d36_26 rfl rfl (by decide) rfl <| og 8 X33 d36_29 (by decide) <| oi 10 X33 d36_8 rfl rfl <| oI 11 X33 d36_10 rfl rfl <| oN 14 X33 d36_11 rfl (tlt (by decide)).2.1 <| oA 15 X33 d36_14 rfl rfl <| oi 17 X33 d36_15 rfl rfl <| oA 18 X33 d36_17 rfl rfl <| oI 19 X33 d36_18 rfl rfl ?_
  have f37 := f31.k1 K33 (by omega)
  refine oC 20 (v := (.int 42)) X33 f37 ⟨by decide, by decide⟩ rfl d36_19 rfl ?_
  have f38 := C33.safe (own_lt (by omega)) f32
  refine mS 23 0 X33 (rm_putChar G q34 V36 ⟨by decide, by decide⟩ ⟨by decide, by decide⟩ (Nat.le_of_ble_eq_true rfl) (Nat.le_of_ble_eq_true rfl) (by omega)) (u36 G) (sS (by omega) f38 all0) d36_20 rfl rfl rfl lr (by decide) (aR (by omega) all0) ?_
  rintro _ _ _ _ X39 ⟨rfl, q40, q41⟩ _ _ C39
  have V42 := q41.as [.int 47, i0, .int ((pi1 >>> ((0 : Int32) &&& 31)).toInt8.toInt32), .int ((pi1 >>> ((8 : Int32) &&& 31)).toInt8.toInt32), .int ((pi2 >>> ((0 : Int32) &&& 31)).toInt8.toInt32), .int ((pi2 >>> ((8 : Int32) &&& 31)).toInt8.toInt32), .int ((pi3 >>> ((0 : Int32) &&& 31)).toInt8.toInt32), .int ((pi3 >>> ((8 : Int32) &&& 31)).toInt8.toInt32), .int 47, i0, .int 42, i0] rfl
  refine oJ 26 6 #[rr pa1, ii 6, ii 6, rr xa1_2, ii 5] X39 d36_23 rfl rfl (by decide) rfl <| oJ 29 6 #[rr pa1, ii 6, ii 6, rr xa1_2, ii 6] X39 d36_26 rfl rfl (by decide) rfl <| og 8 X39 d36_29 (by decide) <| oi 10 X39 d36_8 rfl rfl <| oI 11 X39 d36_10 rfl rfl <| oY 32 X39 d36_11 (by decide) (flt (by decide)).2.1 <| oA 33 X39 d36_32 rfl rfl ?_
  have f43 := C39.safe (own_lt (by omega)) f38
  exact oR X39 d36_33 rfl rfl rfl (by decide) (by decide) (fun _ CC => ⟨xa1_2, xk1_3, rfl, V42, q40, (CC.safe (own_lt (by omega)) f43), by omega⟩)
theorem rm_au222 (G : GL l Z a0 zc fmt kpp) (F0 : av1 Z h0 pa1 pk1 6 [.int 47, .int pi1, .int pi2, .int pi3, .int 47, .int 42]) (rg_pi1 : ¬ pi1 < 0 ∧ ¬ (255 : Int32) < pi1) (bg_pi2 : (255 : Int32) < pi2 ∧ ¬ (65535 : Int32) < pi2) : M5 l Z 3 2 18 40 #[.ref pa1, i0, .int 6] h0 n0 [] [] (Q97 Z pi1 pi2 pi3 h0) := by
  refine mi B5 ef5 (hEW G) fun s X0 hsf0 n0le => ?_
  have l1 := F0.l
  refine oI 1 X0 d5_0 rfl rfl <| nP (aty := .byte) 3 6 X0 (w16 G) d5_1 rfl (by decide) had_byte ?_
  intro _ h1 b1 k1 X1 _ l1 E1 V1 A1 _ S1
  have V2 : av0 Z h1 b1 k1 6 [i0, i0, i0, i0, i0, i0] := V1.pad (pad_rep [] (.int (0 : Int32)) 6)
  refine oV 4 (l' := #[rr pa1, ii 0, ii 6, rr b1, uu, uu]) X1 d5_3 rfl rfl rfl <| oA 5 X1 d5_4 rfl rfl <| oI 6 X1 d5_5 rfl rfl <| oA 7 X1 d5_6 rfl rfl <| oc 8 (v := 0) X1 d5_7 rfl (by decide) <| oI 9 X1 d5_8 rfl rfl ?_
  have f3 := F0.ext E1
  refine mS 12 0 X1 (rm_au220 G f3 V2 A1 rg_pi1 bg_pi2 (by omega)) (u2 G) (sS (by omega) S1 all0) d5_9 rfl rfl rfl lr (by decide) (aR (by omega) all0) ?_
  rintro _ _ _ _ X4 ⟨rfl, _, _⟩ K4 _ _
  refine oS 14 (l' := #[rr pa1, ii 0, ii 6, rr b1, ii 2, uu]) X4 d5_12 rfl rfl <| oi 16 X4 d5_14 rfl rfl <| oI 17 X4 d5_16 rfl rfl <| oN 20 X4 d5_17 rfl (feq (by decide)).1 <| oA 21 X4 d5_20 rfl rfl <| oI 22 X4 d5_21 rfl rfl <| oI 23 X4 d5_22 rfl rfl ?_
  have f7 := f3.k1 K4 (by omega)
  refine mS 26 0 X4 (rm_au221 G f7 rg_pi1 bg_pi2) (u37 G) all0 d5_23 rfl rfl rfl lr (by decide) all0 ?_
  rintro _ _ _ _ X8 ⟨xa1_9, xk1_10, rfl, q11, q12, q13, _⟩ _ _ _
  refine oU 28 (l' := #[rr pa1, ii 0, ii 6, rr b1, ii 2, rr xa1_9]) X8 d5_26 rfl rfl rfl <| oa 30 X8 d5_28 rfl rfl <| oi 32 X8 d5_30 rfl rfl <| mS 35 0 X8 (rm_getChar G q11 ⟨by decide, by decide⟩ ⟨by decide, by decide⟩ rfl rfl) (u38 G) all0 d5_32 rfl rfl rfl lr (by decide) all0 ?_
  rintro _ _ _ _ X15 rfl K15 _ C15
  refine o_sipush 38 (v := 255) X15 d5_35 rfl (by decide) <| oY 54 X15 d5_38 (by decide) (tlt (by rw [own_gcE bg_pi2]; exact bg_pi2.1)).2.2.1 <| oa 56 X15 d5_54 rfl rfl ?_
  have f16 := q11.k0 K15
  have f17 := q12.keep K15
  have f18 := C15.safe (own_lt (by omega)) q13
  exact oR X15 d5_56 rfl rfl rfl (by decide) (by decide) (fun _ CC => ⟨xa1_9, xk1_10, rfl, f16, f17, (CC.safe (own_lt (by omega)) f18), by omega⟩)
theorem rm_au223 (G : GL l Z a0 zc fmt kpp) (F0 : ex1 Z h0 pa1) (F1 : fd1 Z h0 pa1 (.int 0)) (F2 : fd0 Z h0 pa1 .null) (F3 : av1 Z h0 pa2 pk1 6 [.int 47, .int pi1, .int pi2, .int pi3, .int 47, .int 42]) (rg_pi1 : ¬ pi1 < 0 ∧ ¬ (255 : Int32) < pi1) (bg_pi2 : (255 : Int32) < pi2 ∧ ¬ (65535 : Int32) < pi2) (ne : NE pa1 pa2 ∧ n0 ≤ pa1) : M4 l Z 4 2 18 57 #[.ref pa1, .ref pa2, i0, .int 6, .null] h0 n0 [pa1] [pa1] (Q98 Z pa1 pi1 pi2 pi3 h0) := by
  refine mi B4 ef4 (hEW G) fun s X0 hsf0 n0le => ?_
  have := F0.l
  have := F3.l
  have sf_pa1 := hsf0 pa1 (by simp)
  refine oA 1 X0 d4_0 rfl rfl <| o_initO 4 (W := 0) X0 (w12 G) (w13 G) (w14 G) rfl (by decide) (Nat.le_of_eq rfl) (by decide) d4_1 rfl ?_
  intro _ X2
  refine oI 5 X2 d4_4 rfl rfl <| oy 27 X2 d4_5 (by decide) ((if0 _ _).trans (feq (by decide)).2) <| oG 30 X2 (w23 G) Via.refl ((sg5 G).ext X2.old.2) d4_27 rfl ?_
  intro _ X4
  refine on 33 X4 d4_30 rfl ((if0 _ _).trans (feq (hzc G)).1) <| oA 34 X4 d4_33 rfl rfl <| oI 35 X4 d4_34 rfl rfl <| oI 36 X4 d4_35 rfl rfl <| mS 39 0 X4 (rm_au222 G F3 rg_pi1 bg_pi2) (u3 G) all0 d4_36 rfl rfl rfl lr (by decide) all0 ?_
  rintro _ _ _ _ X5 ⟨xa1_6, xk1_7, rfl, q8, q9, q10, _⟩ K5 _ C5
  refine oU 41 (l' := #[rr pa1, rr pa2, ii 0, ii 6, .val .null, rr xa1_6]) X5 d4_39 rfl rfl rfl <| oA 42 X5 d4_41 rfl rfl <| oa 44 X5 d4_42 rfl rfl <| oI 45 X5 d4_44 rfl rfl <| mS 48 1 X5 (rm_au193 G q8) (u4 G) all0 d4_45 rfl rfl rfl lr (by decide) all0 ?_
  rintro _ _ _ _ X12 rfl K12 _ C12
  have f13 := (F1.k0 K5).k0 K12
  have f14 := (F0.keep K5).keep K12
  have f16 := C12.safe (own_lt (by omega)) (C5.safe (own_lt (by omega)) sf_pa1)
  refine oP 51 (v' := (.int 1)) X12 (w22 G) Via.refl f13 f14 (Or.inr ⟨(w18 G), rfl, rfl⟩) (w2 G) fd_1 rfl rfl d4_48 rfl (by omega) (Or.inl (by simp)) f16 ?_
  intro _ _ X15 W15 C15
  have := W15.size
  have f17 := f13.same W15
  refine oA 52 X15 d4_51 rfl rfl <| oa 54 X15 d4_52 rfl rfl ?_
  have f18 := ((F2.k0 K5).k0 K12).other W15 (Or.inr (sn1 G))
  have f19 := f14.wr W15
  have f21 := C15.safe (own_lt (by omega)) f16
  refine oP 57 (v' := (.ref xa1_6)) X15 (w21 G) Via.refl f18 f19 (Or.inr ⟨(w17 G), rfl, rfl⟩) (w2 G) fd_0 rfl rfl d4_54 rfl (by omega) (Or.inl (by simp)) f21 ?_
  intro _ _ X20 W20 C20
  have := W20.size
  have f22 := f18.same W20
  have f23 := f19.wr W20
  have f24 := f17.other W20 (Or.inr (sn0 G))
  have f25 := ((q8.k0 K12).oth W15 (by omega)).oth W20 (by omega)
  have f26 := ((q9.keep K12).wr W15).wr W20
  have f27 := C20.safe (own_lt (by omega)) (C15.safe (own_lt (by omega)) (C12.safe (own_lt (by omega)) q10))
  exact oz X20 d4_57 rfl (by decide) (by decide) (fun _ CC => ⟨xa1_6, xk1_7, rfl, f23, f24, f22, f25, f26, (CC.safe (own_lt (by omega)) f27), by omega⟩)
theorem rm_au224 (G : GL l Z a0 zc fmt kpp) (F0 : ex1 Z h0 pa1) (F1 : fd1 Z h0 pa1 (.int 0)) (F2 : fd0 Z h0 pa1 .null) (F3 : av1 Z h0 pa2 pk1 6 [.int 47, .int pi1, .int pi2, .int pi3, .int 47, .int 42]) (rg_pi1 : ¬ pi1 < 0 ∧ ¬ (255 : Int32) < pi1) (bg_pi2 : (255 : Int32) < pi2 ∧ ¬ (65535 : Int32) < pi2) (ne : NE pa1 pa2 ∧ n0 ≤ pa1) : M3 l Z 5 2 18 74 #[.ref pa1, .ref pa2] h0 n0 [pa1] [pa1] (Q98 Z pa1 pi1 pi2 pi3 h0) := by
  refine mi B3 ef3 (hEW G) fun s X0 hsf0 n0le => ?_
  have := F0.l
  have := F3.l
  have sf_pa1 := hsf0 pa1 (by simp)
  refine oA 1 X0 d3_0 rfl rfl <| oA 2 X0 d3_1 rfl rfl <| oc 3 (v := 0) X0 d3_2 rfl (by decide) <| oA 4 X0 d3_3 rfl rfl <| oL 5 X0 F3 d3_4 rfl <| o_aconstNull 6 X0 d3_5 rfl <| mP 9 0 X0 (rm_au223 G F0 F1 F2 F3 rg_pi1 bg_pi2 (by omega)) (u0 G) (sS (by omega) sf_pa1 all0) d3_6 rfl rfl rfl lr (by decide) (aI (by omega) (by simp) all0) ?_
  rintro _ _ _ _ X1 ⟨xa1_2, xk1_3, rfl, q4, q5, q6, q7, q8, q9, _⟩ _ _ _
  exact oz X1 d3_9 rfl (by decide) (by decide) (fun _ CC => ⟨xa1_2, xk1_3, rfl, q4, q5, q6, q7, q8, (CC.safe (own_lt (by omega)) q9), by omega⟩)
def Q110 (Z : State) (b1 : Addr) (b2 : ClassId) (b3 b4 : Int32) (h0 : Heap) (v : Option Value) (h : Heap) (vm : Vm) : Prop := v = some (.int 3) ∧ av0 Z h b1 b2 4 [.int 47, .int (b3.toInt8.toInt32), .int (b4.toInt8.toInt32), i0] ∧ ex0 Z h b1
theorem rm_au225 (G : GL l Z a0 zc fmt kpp) (F0 : av1 Z h0 pa1 pk1 4 [.int 47, .int pi1, .int pi2, .int pi3]) (F1 : av0 Z h0 pa2 pk2 4 [i0, i0, i0, i0]) (F2 : ex0 Z h0 pa2) (rg_pi1 : ¬ pi1 < 0 ∧ ¬ (255 : Int32) < pi1) (rg_pi2 : ¬ pi2 < 0 ∧ ¬ (255 : Int32) < pi2) (bg_pi3 : (255 : Int32) < pi3 ∧ ¬ (65535 : Int32) < pi3) (ne : NE pa1 pa2 ∧ n0 ≤ pa2) : M6 l Z 0 0 0 0 #[.ref pa1, i0, .ref pa2, i0, .int 4] h0 n0 [pa2] [pa2] (Q110 Z pa2 pk2 pi1 pi2 h0) := by
  refine mi B6 ef6 (hEW G) fun s X0 hsf0 n0le => ?_
  have := F0.l
  have := F1.l
  have sf_pa2 := hsf0 pa2 (by simp)
  refine oc 1 (v := 0) X0 d6_0 rfl (by decide) <| oS 3 (l' := #[rr pa1, ii 0, rr pa2, ii 0, ii 4, ii 0, uu]) X0 d6_1 rfl rfl <| oi 5 X0 d6_3 rfl rfl <| oi 7 X0 d6_5 rfl rfl <| oN 10 X0 d6_7 rfl (tlt (by decide)).2.1 <| oA 11 X0 d6_10 rfl rfl <| oI 12 X0 d6_11 rfl rfl <| oC 13 (v := (.int 47)) X0 F0 ⟨by decide, by decide⟩ rfl d6_12 rfl <| oS 15 (l' := #[rr pa1, ii 0, rr pa2, ii 0, ii 4, ii 0, ii 47]) X0 d6_13 rfl rfl <| oi 17 X0 d6_15 rfl rfl <| o_sipush 20 (v := 255) X0 d6_17 rfl (by decide) <| oY 26 X0 d6_20 (by decide) (flt (by decide)).2.2.2 ?_
  refine oA 27 X0 d6_26 rfl rfl <| oI 28 X0 d6_27 rfl rfl <| oi 30 X0 d6_28 rfl rfl <| o_i2b 31 (v := 47) X0 d6_30 rfl (by decide) <| sB 32 0 47 X0 F1 (by decide) (lb rfl) (by decide) d6_31 rfl (by omega) (Or.inl (by simp)) sf_pa2 ?_
  rintro _ _ X1 ⟨_, _, W1⟩ C1 V1
  have := W1.size
  have V2 := V1.as [.int 47, i0, i0, i0] rfl
  refine oJ 35 1 #[rr pa1, ii 1, rr pa2, ii 0, ii 4, ii 0, ii 47] X1 d6_32 rfl rfl (by decide) rfl <| oJ 38 1 #[rr pa1, ii 1, rr pa2, ii 1, ii 4, ii 0, ii 47] X1 d6_35 rfl rfl (by decide) rfl <| oJ 41 1 #[rr pa1, ii 1, rr pa2, ii 1, ii 4, ii 1, ii 47] X1 d6_38 rfl rfl (by decide) rfl <| og 3 X1 d6_41 (by decide) <| oi 5 X1 d6_3 rfl rfl <| oi 7 X1 d6_5 rfl rfl <| oN 10 X1 d6_7 rfl (tlt (by decide)).2.1 <| oA 11 X1 d6_10 rfl rfl <| oI 12 X1 d6_11 rfl rfl ?_
  have f3 := F0.oth W1 (by omega)
  refine oC 13 (v := (.int pi1)) X1 f3 ⟨by decide, by decide⟩ rfl d6_12 rfl <| oS 15 (l' := #[rr pa1, ii 1, rr pa2, ii 1, ii 4, ii 1, ii pi1]) X1 d6_13 rfl rfl <| oi 17 X1 d6_15 rfl rfl <| o_sipush 20 (v := 255) X1 d6_17 rfl (by decide) <| oY 26 X1 d6_20 (by decide) (flt rg_pi1.2).2.2.2 <| oA 27 X1 d6_26 rfl rfl <| oI 28 X1 d6_27 rfl rfl <| oi 30 X1 d6_28 rfl rfl <| o_i2b 31 (v := (pi1.toInt8.toInt32)) X1 d6_30 rfl rfl ?_
  have f5 := C1.safe (own_lt (by omega)) sf_pa2
  refine sB 32 1 (pi1.toInt8.toInt32) X1 V2 (by decide) (lb rfl) (own_narB _) d6_31 rfl (by omega) (Or.inl (by simp)) f5 ?_
  rintro _ _ X4 ⟨_, _, W4⟩ C4 V4
  have := W4.size
  have V6 := V4.as [.int 47, .int (pi1.toInt8.toInt32), i0, i0] rfl
  refine oJ 35 2 #[rr pa1, ii 2, rr pa2, ii 1, ii 4, ii 1, ii pi1] X4 d6_32 rfl rfl (by decide) rfl <| oJ 38 2 #[rr pa1, ii 2, rr pa2, ii 2, ii 4, ii 1, ii pi1] X4 d6_35 rfl rfl (by decide) rfl <| oJ 41 2 #[rr pa1, ii 2, rr pa2, ii 2, ii 4, ii 2, ii pi1] X4 d6_38 rfl rfl (by decide) rfl <| og 3 X4 d6_41 (by decide) <| oi 5 X4 d6_3 rfl rfl <| oi 7 X4 d6_5 rfl rfl <| oN 10 X4 d6_7 rfl (tlt (by decide)).2.1 <| oA 11 X4 d6_10 rfl rfl <| oI 12 X4 d6_11 rfl rfl ?_
  have f7 := f3.oth W4 (by omega)
  refine oC 13 (v := (.int pi2)) X4 f7 ⟨by decide, by decide⟩ rfl d6_12 rfl <| oS 15 (l' := #[rr pa1, ii 2, rr pa2, ii 2, ii 4, ii 2, ii pi2]) X4 d6_13 rfl rfl <| oi 17 X4 d6_15 rfl rfl <| o_sipush 20 (v := 255) X4 d6_17 rfl (by decide) <| oY 26 X4 d6_20 (by decide) (flt rg_pi2.2).2.2.2 <| oA 27 X4 d6_26 rfl rfl <| oI 28 X4 d6_27 rfl rfl <| oi 30 X4 d6_28 rfl rfl <| o_i2b 31 (v := (pi2.toInt8.toInt32)) X4 d6_30 rfl rfl ?_
  have f9 := C4.safe (own_lt (by omega)) f5
  refine sB 32 2 (pi2.toInt8.toInt32) X4 V6 (by decide) (lb rfl) (own_narB _) d6_31 rfl (by omega) (Or.inl (by simp)) f9 ?_
  rintro _ _ X8 ⟨_, _, W8⟩ _ V8
  have := W8.size
  have V10 := V8.as [.int 47, .int (pi1.toInt8.toInt32), .int (pi2.toInt8.toInt32), i0] rfl
  refine oJ 35 3 #[rr pa1, ii 3, rr pa2, ii 2, ii 4, ii 2, ii pi2] X8 d6_32 rfl rfl (by decide) rfl <| oJ 38 3 #[rr pa1, ii 3, rr pa2, ii 3, ii 4, ii 2, ii pi2] X8 d6_35 rfl rfl (by decide) rfl <| oJ 41 3 #[rr pa1, ii 3, rr pa2, ii 3, ii 4, ii 3, ii pi2] X8 d6_38 rfl rfl (by decide) rfl <| og 3 X8 d6_41 (by decide) <| oi 5 X8 d6_3 rfl rfl <| oi 7 X8 d6_5 rfl rfl <| oN 10 X8 d6_7 rfl (tlt (by decide)).2.1 <| oA 11 X8 d6_10 rfl rfl <| oI 12 X8 d6_11 rfl rfl ?_
  have f11 := f7.oth W8 (by omega)
  refine oC 13 (v := (.int pi3)) X8 f11 ⟨by decide, by decide⟩ rfl d6_12 rfl <| oS 15 (l' := #[rr pa1, ii 3, rr pa2, ii 3, ii 4, ii 3, ii pi3]) X8 d6_13 rfl rfl <| oi 17 X8 d6_15 rfl rfl <| o_sipush 20 (v := 255) X8 d6_17 rfl (by decide) <| oN 23 X8 d6_20 rfl (tlt bg_pi3.1).2.2.2 <| oi 25 X8 d6_23 rfl rfl ?_
  have f12 := ((F2.wr W1).wr W4).wr W8
  exact o_iret X8 d6_25 rfl (by decide) (by decide) (fun _ CC => ⟨rfl, V10, f12⟩)
theorem rm_au226 (G : GL l Z a0 zc fmt kpp) (F0 : av1 Z h0 pa1 pk1 4 [.int 47, .int pi1, .int pi2, .int pi3]) (rg_pi1 : ¬ pi1 < 0 ∧ ¬ (255 : Int32) < pi1) (rg_pi2 : ¬ pi2 < 0 ∧ ¬ (255 : Int32) < pi2) (bg_pi3 : (255 : Int32) < pi3 ∧ ¬ (65535 : Int32) < pi3) : M36 l Z 2 1 8 24 #[.ref pa1, i0, .int 4] h0 n0 [] [] (Q92 Z pi1 pi2 pi3 h0) := by
  refine mi B36 ef13 (hEW G) fun s X0 hsf0 n0le => ?_
  have := F0.l
  refine oI 1 X0 d36_0 rfl rfl <| mS 4 0 X0 (rm_au51 G ) (u35 G) all0 d36_1 rfl rfl rfl lr (by decide) all0 ?_
  rintro _ _ _ _ X1 ⟨xa1_2, xk1_3, rfl, q4, q5, q6, _⟩ K1 _ _
  refine oV 5 (l' := #[rr pa1, ii 0, ii 4, rr xa1_2, uu]) X1 d36_4 rfl rfl rfl <| oc 6 (v := 0) X1 d36_5 rfl (by decide) <| oS 8 (l' := #[rr pa1, ii 0, ii 4, rr xa1_2, ii 0]) X1 d36_6 rfl rfl <| oi 10 X1 d36_8 rfl rfl <| oI 11 X1 d36_10 rfl rfl <| oN 14 X1 d36_11 rfl (tlt (by decide)).2.1 <| oA 15 X1 d36_14 rfl rfl <| oi 17 X1 d36_15 rfl rfl <| oA 18 X1 d36_17 rfl rfl <| oI 19 X1 d36_18 rfl rfl ?_
  have f8 := F0.k0 K1
  refine oC 20 (v := (.int 47)) X1 f8 ⟨by decide, by decide⟩ rfl d36_19 rfl <| mS 23 0 X1 (rm_putChar G q5 q4 ⟨by decide, by decide⟩ ⟨by decide, by decide⟩ (Nat.le_of_ble_eq_true rfl) (Nat.le_of_ble_eq_true rfl) (by omega)) (u36 G) (sS (by omega) q6 all0) d36_20 rfl rfl rfl lr (by decide) (aR (by omega) all0) ?_
  rintro _ _ _ _ X9 ⟨rfl, q10, q11⟩ K9 _ C9
  have V12 := q11.as [.int 47, i0, i0, i0, i0, i0, i0, i0] rfl
  refine oJ 26 1 #[rr pa1, ii 1, ii 4, rr xa1_2, ii 0] X9 d36_23 rfl rfl (by decide) rfl <| oJ 29 1 #[rr pa1, ii 1, ii 4, rr xa1_2, ii 1] X9 d36_26 rfl rfl (by decide) rfl <| og 8 X9 d36_29 (by decide) <| oi 10 X9 d36_8 rfl rfl <| oI 11 X9 d36_10 rfl rfl <| oN 14 X9 d36_11 rfl (tlt (by decide)).2.1 <| oA 15 X9 d36_14 rfl rfl <| oi 17 X9 d36_15 rfl rfl <| oA 18 X9 d36_17 rfl rfl <| oI 19 X9 d36_18 rfl rfl ?_
  have f13 := f8.k1 K9 (by omega)
  refine oC 20 (v := (.int pi1)) X9 f13 ⟨by decide, by decide⟩ rfl d36_19 rfl ?_
  have f14 := C9.safe (own_lt (by omega)) q6
  refine mS 23 0 X9 (rm_putChar G q10 V12 ⟨by decide, by decide⟩ ⟨by decide, by decide⟩ (Nat.le_of_ble_eq_true rfl) (Nat.le_of_ble_eq_true rfl) (by omega)) (u36 G) (sS (by omega) f14 all0) d36_20 rfl rfl rfl lr (by decide) (aR (by omega) all0) ?_
  rintro _ _ _ _ X15 ⟨rfl, q16, q17⟩ K15 _ C15
  have V18 := q17.as [.int 47, i0, .int ((pi1 >>> ((0 : Int32) &&& 31)).toInt8.toInt32), .int ((pi1 >>> ((8 : Int32) &&& 31)).toInt8.toInt32), i0, i0, i0, i0] rfl
  refine oJ 26 2 #[rr pa1, ii 2, ii 4, rr xa1_2, ii 1] X15 d36_23 rfl rfl (by decide) rfl <| oJ 29 2 #[rr pa1, ii 2, ii 4, rr xa1_2, ii 2] X15 d36_26 rfl rfl (by decide) rfl <| og 8 X15 d36_29 (by decide) <| oi 10 X15 d36_8 rfl rfl <| oI 11 X15 d36_10 rfl rfl <| oN 14 X15 d36_11 rfl (tlt (by decide)).2.1 <| oA 15 X15 d36_14 rfl rfl <| oi 17 X15 d36_15 rfl rfl <| oA 18 X15 d36_17 rfl rfl <| oI 19 X15 d36_18 rfl rfl ?_
  have f19 := f13.k1 K15 (by omega)
  refine oC 20 (v := (.int pi2)) X15 f19 ⟨by decide, by decide⟩ rfl d36_19 rfl ?_
  have f20 := C15.safe (own_lt (by omega)) f14
  refine mS 23 0 X15 (rm_putChar G q16 V18 ⟨by decide, by decide⟩ ⟨by decide, by decide⟩ (Nat.le_of_ble_eq_true rfl) (Nat.le_of_ble_eq_true rfl) (by omega)) (u36 G) (sS (by omega) f20 all0) d36_20 rfl rfl rfl lr (by decide) (aR (by omega) all0) ?_
  rintro _ _ _ _ X21 ⟨rfl, q22, q23⟩ K21 _ C21
  have V24 := q23.as [.int 47, i0, .int ((pi1 >>> ((0 : Int32) &&& 31)).toInt8.toInt32), .int ((pi1 >>> ((8 : Int32) &&& 31)).toInt8.toInt32), .int ((pi2 >>> ((0 : Int32) &&& 31)).toInt8.toInt32), .int ((pi2 >>> ((8 : Int32) &&& 31)).toInt8.toInt32), i0, i0] rfl
  refine oJ 26 3 #[rr pa1, ii 3, ii 4, rr xa1_2, ii 2] X21 d36_23 rfl rfl (by decide) rfl <| oJ 29 3 #[rr pa1, ii 3, ii 4, rr xa1_2, ii 3] X21 d36_26 rfl rfl (by decide) rfl <| og 8 X21 d36_29 (by decide) <| oi 10 X21 d36_8 rfl rfl <| oI 11 X21 d36_10 rfl rfl <| oN 14 X21 d36_11 rfl (tlt (by decide)).2.1 <| oA 15 X21 d36_14 rfl rfl <| oi 17 X21 d36_15 rfl rfl <| oA 18 X21 d36_17 rfl rfl <| oI 19 X21 d36_18 rfl rfl ?_
  have f25 := f19.k1 K21 (by omega)
  refine oC 20 (v := (.int pi3)) X21 f25 ⟨by decide, by decide⟩ rfl d36_19 rfl ?_
  have f26 := C21.safe (own_lt (by omega)) f20
  refine mS 23 0 X21 (rm_putChar G q22 V24 ⟨by decide, by decide⟩ ⟨by decide, by decide⟩ (Nat.le_of_ble_eq_true rfl) (Nat.le_of_ble_eq_true rfl) (by omega)) (u36 G) (sS (by omega) f26 all0) d36_20 rfl rfl rfl lr (by decide) (aR (by omega) all0) ?_
  rintro _ _ _ _ X27 ⟨rfl, q28, q29⟩ _ _ C27
  have V30 := q29.as [.int 47, i0, .int ((pi1 >>> ((0 : Int32) &&& 31)).toInt8.toInt32), .int ((pi1 >>> ((8 : Int32) &&& 31)).toInt8.toInt32), .int ((pi2 >>> ((0 : Int32) &&& 31)).toInt8.toInt32), .int ((pi2 >>> ((8 : Int32) &&& 31)).toInt8.toInt32), .int ((pi3 >>> ((0 : Int32) &&& 31)).toInt8.toInt32), .int ((pi3 >>> ((8 : Int32) &&& 31)).toInt8.toInt32)] rfl
  refine oJ 26 4 #[rr pa1, ii 4, ii 4, rr xa1_2, ii 3] X27 d36_23 rfl rfl (by decide) rfl <| oJ 29 4 #[rr pa1, ii 4, ii 4, rr xa1_2, ii 4] X27 d36_26 rfl rfl (by decide) rfl <| og 8 X27 d36_29 (by decide) <| oi 10 X27 d36_8 rfl rfl <| oI 11 X27 d36_10 rfl rfl <| oY 32 X27 d36_11 (by decide) (flt (by decide)).2.1 <| oA 33 X27 d36_32 rfl rfl ?_
  have f31 := C27.safe (own_lt (by omega)) f26
  exact oR X27 d36_33 rfl rfl rfl (by decide) (by decide) (fun _ CC => ⟨xa1_2, xk1_3, rfl, V30, q28, (CC.safe (own_lt (by omega)) f31), by omega⟩)
theorem rm_au227 (G : GL l Z a0 zc fmt kpp) (F0 : av1 Z h0 pa1 pk1 4 [.int 47, .int pi1, .int pi2, .int pi3]) (rg_pi1 : ¬ pi1 < 0 ∧ ¬ (255 : Int32) < pi1) (rg_pi2 : ¬ pi2 < 0 ∧ ¬ (255 : Int32) < pi2) (bg_pi3 : (255 : Int32) < pi3 ∧ ¬ (65535 : Int32) < pi3) : M5 l Z 3 2 12 40 #[.ref pa1, i0, .int 4] h0 n0 [] [] (Q92 Z pi1 pi2 pi3 h0) := by
  refine mi B5 ef5 (hEW G) fun s X0 hsf0 n0le => ?_
  have l1 := F0.l
  refine oI 1 X0 d5_0 rfl rfl <| nP (aty := .byte) 3 4 X0 (w16 G) d5_1 rfl (by decide) had_byte ?_
  intro _ h1 b1 k1 X1 _ l1 E1 V1 A1 _ S1
  have V2 : av0 Z h1 b1 k1 4 [i0, i0, i0, i0] := V1.pad (pad_rep [] (.int (0 : Int32)) 4)
  refine oV 4 (l' := #[rr pa1, ii 0, ii 4, rr b1, uu, uu]) X1 d5_3 rfl rfl rfl <| oA 5 X1 d5_4 rfl rfl <| oI 6 X1 d5_5 rfl rfl <| oA 7 X1 d5_6 rfl rfl <| oc 8 (v := 0) X1 d5_7 rfl (by decide) <| oI 9 X1 d5_8 rfl rfl ?_
  have f3 := F0.ext E1
  refine mS 12 0 X1 (rm_au225 G f3 V2 A1 rg_pi1 rg_pi2 bg_pi3 (by omega)) (u2 G) (sS (by omega) S1 all0) d5_9 rfl rfl rfl lr (by decide) (aR (by omega) all0) ?_
  rintro _ _ _ _ X4 ⟨rfl, _, _⟩ K4 _ _
  refine oS 14 (l' := #[rr pa1, ii 0, ii 4, rr b1, ii 3, uu]) X4 d5_12 rfl rfl <| oi 16 X4 d5_14 rfl rfl <| oI 17 X4 d5_16 rfl rfl <| oN 20 X4 d5_17 rfl (feq (by decide)).1 <| oA 21 X4 d5_20 rfl rfl <| oI 22 X4 d5_21 rfl rfl <| oI 23 X4 d5_22 rfl rfl ?_
  have f7 := f3.k1 K4 (by omega)
  refine mS 26 0 X4 (rm_au226 G f7 rg_pi1 rg_pi2 bg_pi3) (u37 G) all0 d5_23 rfl rfl rfl lr (by decide) all0 ?_
  rintro _ _ _ _ X8 ⟨xa1_9, xk1_10, rfl, q11, q12, q13, _⟩ _ _ _
  refine oU 28 (l' := #[rr pa1, ii 0, ii 4, rr b1, ii 3, rr xa1_9]) X8 d5_26 rfl rfl rfl <| oa 30 X8 d5_28 rfl rfl <| oi 32 X8 d5_30 rfl rfl <| mS 35 0 X8 (rm_getChar G q11 ⟨by decide, by decide⟩ ⟨by decide, by decide⟩ rfl rfl) (u38 G) all0 d5_32 rfl rfl rfl lr (by decide) all0 ?_
  rintro _ _ _ _ X15 rfl K15 _ C15
  refine o_sipush 38 (v := 255) X15 d5_35 rfl (by decide) <| oY 54 X15 d5_38 (by decide) (tlt (by rw [own_gcE bg_pi3]; exact bg_pi3.1)).2.2.1 <| oa 56 X15 d5_54 rfl rfl ?_
  have f16 := q11.k0 K15
  have f17 := q12.keep K15
  have f18 := C15.safe (own_lt (by omega)) q13
  exact oR X15 d5_56 rfl rfl rfl (by decide) (by decide) (fun _ CC => ⟨xa1_9, xk1_10, rfl, f16, f17, (CC.safe (own_lt (by omega)) f18), by omega⟩)
theorem rm_au228 (G : GL l Z a0 zc fmt kpp) (F0 : ex1 Z h0 pa1) (F1 : fd1 Z h0 pa1 (.int 0)) (F2 : fd0 Z h0 pa1 .null) (F3 : av1 Z h0 pa2 pk1 4 [.int 47, .int pi1, .int pi2, .int pi3]) (rg_pi1 : ¬ pi1 < 0 ∧ ¬ (255 : Int32) < pi1) (rg_pi2 : ¬ pi2 < 0 ∧ ¬ (255 : Int32) < pi2) (bg_pi3 : (255 : Int32) < pi3 ∧ ¬ (65535 : Int32) < pi3) (ne : NE pa1 pa2 ∧ n0 ≤ pa1) : M4 l Z 4 2 12 57 #[.ref pa1, .ref pa2, i0, .int 4, .null] h0 n0 [pa1] [pa1] (Q93 Z pa1 pi1 pi2 pi3 h0) := by
  refine mi B4 ef4 (hEW G) fun s X0 hsf0 n0le => ?_
  have := F0.l
  have := F3.l
  have sf_pa1 := hsf0 pa1 (by simp)
  refine oA 1 X0 d4_0 rfl rfl <| o_initO 4 (W := 0) X0 (w12 G) (w13 G) (w14 G) rfl (by decide) (Nat.le_of_eq rfl) (by decide) d4_1 rfl ?_
  intro _ X2
  refine oI 5 X2 d4_4 rfl rfl <| oy 27 X2 d4_5 (by decide) ((if0 _ _).trans (feq (by decide)).2) <| oG 30 X2 (w23 G) Via.refl ((sg5 G).ext X2.old.2) d4_27 rfl ?_
  intro _ X4
  refine on 33 X4 d4_30 rfl ((if0 _ _).trans (feq (hzc G)).1) <| oA 34 X4 d4_33 rfl rfl <| oI 35 X4 d4_34 rfl rfl <| oI 36 X4 d4_35 rfl rfl <| mS 39 0 X4 (rm_au227 G F3 rg_pi1 rg_pi2 bg_pi3) (u3 G) all0 d4_36 rfl rfl rfl lr (by decide) all0 ?_
  rintro _ _ _ _ X5 ⟨xa1_6, xk1_7, rfl, q8, q9, q10, _⟩ K5 _ C5
  refine oU 41 (l' := #[rr pa1, rr pa2, ii 0, ii 4, .val .null, rr xa1_6]) X5 d4_39 rfl rfl rfl <| oA 42 X5 d4_41 rfl rfl <| oa 44 X5 d4_42 rfl rfl <| oI 45 X5 d4_44 rfl rfl <| mS 48 1 X5 (rm_au54 G q8) (u4 G) all0 d4_45 rfl rfl rfl lr (by decide) all0 ?_
  rintro _ _ _ _ X12 rfl K12 _ C12
  have f13 := (F1.k0 K5).k0 K12
  have f14 := (F0.keep K5).keep K12
  have f16 := C12.safe (own_lt (by omega)) (C5.safe (own_lt (by omega)) sf_pa1)
  refine oP 51 (v' := (.int 1)) X12 (w22 G) Via.refl f13 f14 (Or.inr ⟨(w18 G), rfl, rfl⟩) (w2 G) fd_1 rfl rfl d4_48 rfl (by omega) (Or.inl (by simp)) f16 ?_
  intro _ _ X15 W15 C15
  have := W15.size
  have f17 := f13.same W15
  refine oA 52 X15 d4_51 rfl rfl <| oa 54 X15 d4_52 rfl rfl ?_
  have f18 := ((F2.k0 K5).k0 K12).other W15 (Or.inr (sn1 G))
  have f19 := f14.wr W15
  have f21 := C15.safe (own_lt (by omega)) f16
  refine oP 57 (v' := (.ref xa1_6)) X15 (w21 G) Via.refl f18 f19 (Or.inr ⟨(w17 G), rfl, rfl⟩) (w2 G) fd_0 rfl rfl d4_54 rfl (by omega) (Or.inl (by simp)) f21 ?_
  intro _ _ X20 W20 C20
  have := W20.size
  have f22 := f18.same W20
  have f23 := f19.wr W20
  have f24 := f17.other W20 (Or.inr (sn0 G))
  have f25 := ((q8.k0 K12).oth W15 (by omega)).oth W20 (by omega)
  have f26 := ((q9.keep K12).wr W15).wr W20
  have f27 := C20.safe (own_lt (by omega)) (C15.safe (own_lt (by omega)) (C12.safe (own_lt (by omega)) q10))
  exact oz X20 d4_57 rfl (by decide) (by decide) (fun _ CC => ⟨xa1_6, xk1_7, rfl, f23, f24, f22, f25, f26, (CC.safe (own_lt (by omega)) f27), by omega⟩)
theorem rm_au229 (G : GL l Z a0 zc fmt kpp) (F0 : ex1 Z h0 pa1) (F1 : fd1 Z h0 pa1 (.int 0)) (F2 : fd0 Z h0 pa1 .null) (F3 : av1 Z h0 pa2 pk1 4 [.int 47, .int pi1, .int pi2, .int pi3]) (rg_pi1 : ¬ pi1 < 0 ∧ ¬ (255 : Int32) < pi1) (rg_pi2 : ¬ pi2 < 0 ∧ ¬ (255 : Int32) < pi2) (bg_pi3 : (255 : Int32) < pi3 ∧ ¬ (65535 : Int32) < pi3) (ne : NE pa1 pa2 ∧ n0 ≤ pa1) : M3 l Z 5 2 12 74 #[.ref pa1, .ref pa2] h0 n0 [pa1] [pa1] (Q93 Z pa1 pi1 pi2 pi3 h0) := by
  refine mi B3 ef3 (hEW G) fun s X0 hsf0 n0le => ?_
  have := F0.l
  have := F3.l
  have sf_pa1 := hsf0 pa1 (by simp)
  refine oA 1 X0 d3_0 rfl rfl <| oA 2 X0 d3_1 rfl rfl <| oc 3 (v := 0) X0 d3_2 rfl (by decide) <| oA 4 X0 d3_3 rfl rfl <| oL 5 X0 F3 d3_4 rfl <| o_aconstNull 6 X0 d3_5 rfl <| mP 9 0 X0 (rm_au228 G F0 F1 F2 F3 rg_pi1 rg_pi2 bg_pi3 (by omega)) (u0 G) (sS (by omega) sf_pa1 all0) d3_6 rfl rfl rfl lr (by decide) (aI (by omega) (by simp) all0) ?_
  rintro _ _ _ _ X1 ⟨xa1_2, xk1_3, rfl, q4, q5, q6, q7, q8, q9, _⟩ _ _ _
  exact oz X1 d3_9 rfl (by decide) (by decide) (fun _ CC => ⟨xa1_2, xk1_3, rfl, q4, q5, q6, q7, q8, (CC.safe (own_lt (by omega)) q9), by omega⟩)
def Q111 (Z : State) (b1 : Addr) (b2 : ClassId) (b3 b4 : Int32) (h0 : Heap) (v : Option Value) (h : Heap) (vm : Vm) : Prop := v = some (.int 3) ∧ av0 Z h b1 b2 6 [.int 47, .int (b3.toInt8.toInt32), .int (b4.toInt8.toInt32), i0, i0, i0] ∧ ex0 Z h b1
theorem rm_au230 (G : GL l Z a0 zc fmt kpp) (F0 : av1 Z h0 pa1 pk1 6 [.int 47, .int pi1, .int pi2, .int pi3, .int 47, .int 42]) (F1 : av0 Z h0 pa2 pk2 6 [i0, i0, i0, i0, i0, i0]) (F2 : ex0 Z h0 pa2) (rg_pi1 : ¬ pi1 < 0 ∧ ¬ (255 : Int32) < pi1) (rg_pi2 : ¬ pi2 < 0 ∧ ¬ (255 : Int32) < pi2) (bg_pi3 : (255 : Int32) < pi3 ∧ ¬ (65535 : Int32) < pi3) (ne : NE pa1 pa2 ∧ n0 ≤ pa2) : M6 l Z 0 0 0 0 #[.ref pa1, i0, .ref pa2, i0, .int 6] h0 n0 [pa2] [pa2] (Q111 Z pa2 pk2 pi1 pi2 h0) := by
  refine mi B6 ef6 (hEW G) fun s X0 hsf0 n0le => ?_
  have := F0.l
  have := F1.l
  have sf_pa2 := hsf0 pa2 (by simp)
  refine oc 1 (v := 0) X0 d6_0 rfl (by decide) <| oS 3 (l' := #[rr pa1, ii 0, rr pa2, ii 0, ii 6, ii 0, uu]) X0 d6_1 rfl rfl <| oi 5 X0 d6_3 rfl rfl <| oi 7 X0 d6_5 rfl rfl <| oN 10 X0 d6_7 rfl (tlt (by decide)).2.1 <| oA 11 X0 d6_10 rfl rfl <| oI 12 X0 d6_11 rfl rfl <| oC 13 (v := (.int 47)) X0 F0 ⟨by decide, by decide⟩ rfl d6_12 rfl <| oS 15 (l' := #[rr pa1, ii 0, rr pa2, ii 0, ii 6, ii 0, ii 47]) X0 d6_13 rfl rfl <| oi 17 X0 d6_15 rfl rfl <| o_sipush 20 (v := 255) X0 d6_17 rfl (by decide) <| oY 26 X0 d6_20 (by decide) (flt (by decide)).2.2.2 ?_
  refine oA 27 X0 d6_26 rfl rfl <| oI 28 X0 d6_27 rfl rfl <| oi 30 X0 d6_28 rfl rfl <| o_i2b 31 (v := 47) X0 d6_30 rfl (by decide) <| sB 32 0 47 X0 F1 (by decide) (lb rfl) (by decide) d6_31 rfl (by omega) (Or.inl (by simp)) sf_pa2 ?_
  rintro _ _ X1 ⟨_, _, W1⟩ C1 V1
  have := W1.size
  have V2 := V1.as [.int 47, i0, i0, i0, i0, i0] rfl
  refine oJ 35 1 #[rr pa1, ii 1, rr pa2, ii 0, ii 6, ii 0, ii 47] X1 d6_32 rfl rfl (by decide) rfl <| oJ 38 1 #[rr pa1, ii 1, rr pa2, ii 1, ii 6, ii 0, ii 47] X1 d6_35 rfl rfl (by decide) rfl <| oJ 41 1 #[rr pa1, ii 1, rr pa2, ii 1, ii 6, ii 1, ii 47] X1 d6_38 rfl rfl (by decide) rfl <| og 3 X1 d6_41 (by decide) <| oi 5 X1 d6_3 rfl rfl <| oi 7 X1 d6_5 rfl rfl <| oN 10 X1 d6_7 rfl (tlt (by decide)).2.1 <| oA 11 X1 d6_10 rfl rfl <| oI 12 X1 d6_11 rfl rfl ?_
  have f3 := F0.oth W1 (by omega)
  refine oC 13 (v := (.int pi1)) X1 f3 ⟨by decide, by decide⟩ rfl d6_12 rfl <| oS 15 (l' := #[rr pa1, ii 1, rr pa2, ii 1, ii 6, ii 1, ii pi1]) X1 d6_13 rfl rfl <| oi 17 X1 d6_15 rfl rfl <| o_sipush 20 (v := 255) X1 d6_17 rfl (by decide) <| oY 26 X1 d6_20 (by decide) (flt rg_pi1.2).2.2.2 <| oA 27 X1 d6_26 rfl rfl <| oI 28 X1 d6_27 rfl rfl <| oi 30 X1 d6_28 rfl rfl <| o_i2b 31 (v := (pi1.toInt8.toInt32)) X1 d6_30 rfl rfl ?_
  have f5 := C1.safe (own_lt (by omega)) sf_pa2
  refine sB 32 1 (pi1.toInt8.toInt32) X1 V2 (by decide) (lb rfl) (own_narB _) d6_31 rfl (by omega) (Or.inl (by simp)) f5 ?_
  rintro _ _ X4 ⟨_, _, W4⟩ C4 V4
  have := W4.size
  have V6 := V4.as [.int 47, .int (pi1.toInt8.toInt32), i0, i0, i0, i0] rfl
  refine oJ 35 2 #[rr pa1, ii 2, rr pa2, ii 1, ii 6, ii 1, ii pi1] X4 d6_32 rfl rfl (by decide) rfl <| oJ 38 2 #[rr pa1, ii 2, rr pa2, ii 2, ii 6, ii 1, ii pi1] X4 d6_35 rfl rfl (by decide) rfl <| oJ 41 2 #[rr pa1, ii 2, rr pa2, ii 2, ii 6, ii 2, ii pi1] X4 d6_38 rfl rfl (by decide) rfl <| og 3 X4 d6_41 (by decide) <| oi 5 X4 d6_3 rfl rfl <| oi 7 X4 d6_5 rfl rfl <| oN 10 X4 d6_7 rfl (tlt (by decide)).2.1 <| oA 11 X4 d6_10 rfl rfl <| oI 12 X4 d6_11 rfl rfl ?_
  have f7 := f3.oth W4 (by omega)
  refine oC 13 (v := (.int pi2)) X4 f7 ⟨by decide, by decide⟩ rfl d6_12 rfl <| oS 15 (l' := #[rr pa1, ii 2, rr pa2, ii 2, ii 6, ii 2, ii pi2]) X4 d6_13 rfl rfl <| oi 17 X4 d6_15 rfl rfl <| o_sipush 20 (v := 255) X4 d6_17 rfl (by decide) <| oY 26 X4 d6_20 (by decide) (flt rg_pi2.2).2.2.2 <| oA 27 X4 d6_26 rfl rfl <| oI 28 X4 d6_27 rfl rfl <| oi 30 X4 d6_28 rfl rfl <| o_i2b 31 (v := (pi2.toInt8.toInt32)) X4 d6_30 rfl rfl ?_
  have f9 := C4.safe (own_lt (by omega)) f5
  refine sB 32 2 (pi2.toInt8.toInt32) X4 V6 (by decide) (lb rfl) (own_narB _) d6_31 rfl (by omega) (Or.inl (by simp)) f9 ?_
  rintro _ _ X8 ⟨_, _, W8⟩ _ V8
  have := W8.size
  have V10 := V8.as [.int 47, .int (pi1.toInt8.toInt32), .int (pi2.toInt8.toInt32), i0, i0, i0] rfl
  refine oJ 35 3 #[rr pa1, ii 3, rr pa2, ii 2, ii 6, ii 2, ii pi2] X8 d6_32 rfl rfl (by decide) rfl <| oJ 38 3 #[rr pa1, ii 3, rr pa2, ii 3, ii 6, ii 2, ii pi2] X8 d6_35 rfl rfl (by decide) rfl <| oJ 41 3 #[rr pa1, ii 3, rr pa2, ii 3, ii 6, ii 3, ii pi2] X8 d6_38 rfl rfl (by decide) rfl <| og 3 X8 d6_41 (by decide) <| oi 5 X8 d6_3 rfl rfl <| oi 7 X8 d6_5 rfl rfl <| oN 10 X8 d6_7 rfl (tlt (by decide)).2.1 <| oA 11 X8 d6_10 rfl rfl <| oI 12 X8 d6_11 rfl rfl ?_
  have f11 := f7.oth W8 (by omega)
  refine oC 13 (v := (.int pi3)) X8 f11 ⟨by decide, by decide⟩ rfl d6_12 rfl <| oS 15 (l' := #[rr pa1, ii 3, rr pa2, ii 3, ii 6, ii 3, ii pi3]) X8 d6_13 rfl rfl <| oi 17 X8 d6_15 rfl rfl <| o_sipush 20 (v := 255) X8 d6_17 rfl (by decide) <| oN 23 X8 d6_20 rfl (tlt bg_pi3.1).2.2.2 <| oi 25 X8 d6_23 rfl rfl ?_
  have f12 := ((F2.wr W1).wr W4).wr W8
  exact o_iret X8 d6_25 rfl (by decide) (by decide) (fun _ CC => ⟨rfl, V10, f12⟩)
theorem rm_au231 (G : GL l Z a0 zc fmt kpp) (F0 : av1 Z h0 pa1 pk1 6 [.int 47, .int pi1, .int pi2, .int pi3, .int 47, .int 42]) (rg_pi1 : ¬ pi1 < 0 ∧ ¬ (255 : Int32) < pi1) (rg_pi2 : ¬ pi2 < 0 ∧ ¬ (255 : Int32) < pi2) (bg_pi3 : (255 : Int32) < pi3 ∧ ¬ (65535 : Int32) < pi3) : M36 l Z 2 1 12 24 #[.ref pa1, i0, .int 6] h0 n0 [] [] (Q97 Z pi1 pi2 pi3 h0) := by
  refine mi B36 ef13 (hEW G) fun s X0 hsf0 n0le => ?_
  have := F0.l
  refine oI 1 X0 d36_0 rfl rfl <| mS 4 0 X0 (rm_au190 G ) (u35 G) all0 d36_1 rfl rfl rfl lr (by decide) all0 ?_
  rintro _ _ _ _ X1 ⟨xa1_2, xk1_3, rfl, q4, q5, q6, _⟩ K1 _ _
  refine oV 5 (l' := #[rr pa1, ii 0, ii 6, rr xa1_2, uu]) X1 d36_4 rfl rfl rfl <| oc 6 (v := 0) X1 d36_5 rfl (by decide) <| oS 8 (l' := #[rr pa1, ii 0, ii 6, rr xa1_2, ii 0]) X1 d36_6 rfl rfl <| oi 10 X1 d36_8 rfl rfl <| oI 11 X1 d36_10 rfl rfl <| oN 14 X1 d36_11 rfl (tlt (by decide)).2.1 <| oA 15 X1 d36_14 rfl rfl <| oi 17 X1 d36_15 rfl rfl <| oA 18 X1 d36_17 rfl rfl <| oI 19 X1 d36_18 rfl rfl ?_
  have f8 := F0.k0 K1
  refine oC 20 (v := (.int 47)) X1 f8 ⟨by decide, by decide⟩ rfl d36_19 rfl <| mS 23 0 X1 (rm_putChar G q5 q4 ⟨by decide, by decide⟩ ⟨by decide, by decide⟩ (Nat.le_of_ble_eq_true rfl) (Nat.le_of_ble_eq_true rfl) (by omega)) (u36 G) (sS (by omega) q6 all0) d36_20 rfl rfl rfl lr (by decide) (aR (by omega) all0) ?_
  rintro _ _ _ _ X9 ⟨rfl, q10, q11⟩ K9 _ C9
  have V12 := q11.as [.int 47, i0, i0, i0, i0, i0, i0, i0, i0, i0, i0, i0] rfl
  refine oJ 26 1 #[rr pa1, ii 1, ii 6, rr xa1_2, ii 0] X9 d36_23 rfl rfl (by decide) rfl <| oJ 29 1 #[rr pa1, ii 1, ii 6, rr xa1_2, ii 1] X9 d36_26 rfl rfl (by decide) rfl <| og 8 X9 d36_29 (by decide) <| oi 10 X9 d36_8 rfl rfl <| oI 11 X9 d36_10 rfl rfl <| oN 14 X9 d36_11 rfl (tlt (by decide)).2.1 <| oA 15 X9 d36_14 rfl rfl <| oi 17 X9 d36_15 rfl rfl <| oA 18 X9 d36_17 rfl rfl <| oI 19 X9 d36_18 rfl rfl ?_
  have f13 := f8.k1 K9 (by omega)
  refine oC 20 (v := (.int pi1)) X9 f13 ⟨by decide, by decide⟩ rfl d36_19 rfl ?_
  have f14 := C9.safe (own_lt (by omega)) q6
  refine mS 23 0 X9 (rm_putChar G q10 V12 ⟨by decide, by decide⟩ ⟨by decide, by decide⟩ (Nat.le_of_ble_eq_true rfl) (Nat.le_of_ble_eq_true rfl) (by omega)) (u36 G) (sS (by omega) f14 all0) d36_20 rfl rfl rfl lr (by decide) (aR (by omega) all0) ?_
  rintro _ _ _ _ X15 ⟨rfl, q16, q17⟩ K15 _ C15
  have V18 := q17.as [.int 47, i0, .int ((pi1 >>> ((0 : Int32) &&& 31)).toInt8.toInt32), .int ((pi1 >>> ((8 : Int32) &&& 31)).toInt8.toInt32), i0, i0, i0, i0, i0, i0, i0, i0] rfl
  refine oJ 26 2 #[rr pa1, ii 2, ii 6, rr xa1_2, ii 1] X15 d36_23 rfl rfl (by decide) rfl <| oJ 29 2 #[rr pa1, ii 2, ii 6, rr xa1_2, ii 2] X15 d36_26 rfl rfl (by decide) rfl <| og 8 X15 d36_29 (by decide) <| oi 10 X15 d36_8 rfl rfl <| oI 11 X15 d36_10 rfl rfl <| oN 14 X15 d36_11 rfl (tlt (by decide)).2.1 <| oA 15 X15 d36_14 rfl rfl <| oi 17 X15 d36_15 rfl rfl <| oA 18 X15 d36_17 rfl rfl <| oI 19 X15 d36_18 rfl rfl ?_
  have f19 := f13.k1 K15 (by omega)
  refine oC 20 (v := (.int pi2)) X15 f19 ⟨by decide, by decide⟩ rfl d36_19 rfl ?_
  have f20 := C15.safe (own_lt (by omega)) f14
  refine mS 23 0 X15 (rm_putChar G q16 V18 ⟨by decide, by decide⟩ ⟨by decide, by decide⟩ (Nat.le_of_ble_eq_true rfl) (Nat.le_of_ble_eq_true rfl) (by omega)) (u36 G) (sS (by omega) f20 all0) d36_20 rfl rfl rfl lr (by decide) (aR (by omega) all0) ?_
  rintro _ _ _ _ X21 ⟨rfl, q22, q23⟩ K21 _ C21
  have V24 := q23.as [.int 47, i0, .int ((pi1 >>> ((0 : Int32) &&& 31)).toInt8.toInt32), .int ((pi1 >>> ((8 : Int32) &&& 31)).toInt8.toInt32), .int ((pi2 >>> ((0 : Int32) &&& 31)).toInt8.toInt32), .int ((pi2 >>> ((8 : Int32) &&& 31)).toInt8.toInt32), i0, i0, i0, i0, i0, i0] rfl
  refine oJ 26 3 #[rr pa1, ii 3, ii 6, rr xa1_2, ii 2] X21 d36_23 rfl rfl (by decide) rfl <| oJ 29 3 #[rr pa1, ii 3, ii 6, rr xa1_2, ii 3] X21 d36_26 rfl rfl (by decide) rfl <| og 8 X21 d36_29 (by decide) <| oi 10 X21 d36_8 rfl rfl <| oI 11 X21 d36_10 rfl rfl <| oN 14 X21 d36_11 rfl (tlt (by decide)).2.1 <| oA 15 X21 d36_14 rfl rfl <| oi 17 X21 d36_15 rfl rfl <| oA 18 X21 d36_17 rfl rfl <| oI 19 X21 d36_18 rfl rfl ?_
  have f25 := f19.k1 K21 (by omega)
  refine oC 20 (v := (.int pi3)) X21 f25 ⟨by decide, by decide⟩ rfl d36_19 rfl ?_
  have f26 := C21.safe (own_lt (by omega)) f20
  refine mS 23 0 X21 (rm_putChar G q22 V24 ⟨by decide, by decide⟩ ⟨by decide, by decide⟩ (Nat.le_of_ble_eq_true rfl) (Nat.le_of_ble_eq_true rfl) (by omega)) (u36 G) (sS (by omega) f26 all0) d36_20 rfl rfl rfl lr (by decide) (aR (by omega) all0) ?_
  rintro _ _ _ _ X27 ⟨rfl, q28, q29⟩ K27 _ C27
  have V30 := q29.as [.int 47, i0, .int ((pi1 >>> ((0 : Int32) &&& 31)).toInt8.toInt32), .int ((pi1 >>> ((8 : Int32) &&& 31)).toInt8.toInt32), .int ((pi2 >>> ((0 : Int32) &&& 31)).toInt8.toInt32), .int ((pi2 >>> ((8 : Int32) &&& 31)).toInt8.toInt32), .int ((pi3 >>> ((0 : Int32) &&& 31)).toInt8.toInt32), .int ((pi3 >>> ((8 : Int32) &&& 31)).toInt8.toInt32), i0, i0, i0, i0] rfl
  refine oJ 26 4 #[rr pa1, ii 4, ii 6, rr xa1_2, ii 3] X27 d36_23 rfl rfl (by decide) rfl <| oJ 29 4 #[rr pa1, ii 4, ii 6, rr xa1_2, ii 4] X27 d36_26 rfl rfl (by decide) rfl <| og 8 X27 d36_29 (by decide) <| oi 10 X27 d36_8 rfl rfl <| oI 11 X27 d36_10 rfl rfl <| oN 14 X27 d36_11 rfl (tlt (by decide)).2.1 <| oA 15 X27 d36_14 rfl rfl <| oi 17 X27 d36_15 rfl rfl <| oA 18 X27 d36_17 rfl rfl <| oI 19 X27 d36_18 rfl rfl ?_
  have f31 := f25.k1 K27 (by omega)
  refine oC 20 (v := (.int 47)) X27 f31 ⟨by decide, by decide⟩ rfl d36_19 rfl ?_
  have f32 := C27.safe (own_lt (by omega)) f26
  refine mS 23 0 X27 (rm_putChar G q28 V30 ⟨by decide, by decide⟩ ⟨by decide, by decide⟩ (Nat.le_of_ble_eq_true rfl) (Nat.le_of_ble_eq_true rfl) (by omega)) (u36 G) (sS (by omega) f32 all0) d36_20 rfl rfl rfl lr (by decide) (aR (by omega) all0) ?_
  rintro _ _ _ _ X33 ⟨rfl, q34, q35⟩ K33 _ C33
  have V36 := q35.as [.int 47, i0, .int ((pi1 >>> ((0 : Int32) &&& 31)).toInt8.toInt32), .int ((pi1 >>> ((8 : Int32) &&& 31)).toInt8.toInt32), .int ((pi2 >>> ((0 : Int32) &&& 31)).toInt8.toInt32), .int ((pi2 >>> ((8 : Int32) &&& 31)).toInt8.toInt32), .int ((pi3 >>> ((0 : Int32) &&& 31)).toInt8.toInt32), .int ((pi3 >>> ((8 : Int32) &&& 31)).toInt8.toInt32), .int 47, i0, i0, i0] rfl
  refine oJ 26 5 #[rr pa1, ii 5, ii 6, rr xa1_2, ii 4] X33 d36_23 rfl rfl (by decide) rfl <| oJ 29 5 #[rr pa1, ii 5, ii 6, rr xa1_2, ii 5] X33 d36_26 rfl rfl (by decide) rfl <| og 8 X33 d36_29 (by decide) <| oi 10 X33 d36_8 rfl rfl <| oI 11 X33 d36_10 rfl rfl <| oN 14 X33 d36_11 rfl (tlt (by decide)).2.1 <| oA 15 X33 d36_14 rfl rfl <| oi 17 X33 d36_15 rfl rfl <| oA 18 X33 d36_17 rfl rfl <| oI 19 X33 d36_18 rfl rfl ?_
  have f37 := f31.k1 K33 (by omega)
  refine oC 20 (v := (.int 42)) X33 f37 ⟨by decide, by decide⟩ rfl d36_19 rfl ?_
  have f38 := C33.safe (own_lt (by omega)) f32
  refine mS 23 0 X33 (rm_putChar G q34 V36 ⟨by decide, by decide⟩ ⟨by decide, by decide⟩ (Nat.le_of_ble_eq_true rfl) (Nat.le_of_ble_eq_true rfl) (by omega)) (u36 G) (sS (by omega) f38 all0) d36_20 rfl rfl rfl lr (by decide) (aR (by omega) all0) ?_
  rintro _ _ _ _ X39 ⟨rfl, q40, q41⟩ _ _ C39
  have V42 := q41.as [.int 47, i0, .int ((pi1 >>> ((0 : Int32) &&& 31)).toInt8.toInt32), .int ((pi1 >>> ((8 : Int32) &&& 31)).toInt8.toInt32), .int ((pi2 >>> ((0 : Int32) &&& 31)).toInt8.toInt32), .int ((pi2 >>> ((8 : Int32) &&& 31)).toInt8.toInt32), .int ((pi3 >>> ((0 : Int32) &&& 31)).toInt8.toInt32), .int ((pi3 >>> ((8 : Int32) &&& 31)).toInt8.toInt32), .int 47, i0, .int 42, i0] rfl
  refine oJ 26 6 #[rr pa1, ii 6, ii 6, rr xa1_2, ii 5] X39 d36_23 rfl rfl (by decide) rfl <| oJ 29 6 #[rr pa1, ii 6, ii 6, rr xa1_2, ii 6] X39 d36_26 rfl rfl (by decide) rfl <| og 8 X39 d36_29 (by decide) <| oi 10 X39 d36_8 rfl rfl <| oI 11 X39 d36_10 rfl rfl <| oY 32 X39 d36_11 (by decide) (flt (by decide)).2.1 <| oA 33 X39 d36_32 rfl rfl ?_
  have f43 := C39.safe (own_lt (by omega)) f38
  exact oR X39 d36_33 rfl rfl rfl (by decide) (by decide) (fun _ CC => ⟨xa1_2, xk1_3, rfl, V42, q40, (CC.safe (own_lt (by omega)) f43), by omega⟩)
theorem rm_au232 (G : GL l Z a0 zc fmt kpp) (F0 : av1 Z h0 pa1 pk1 6 [.int 47, .int pi1, .int pi2, .int pi3, .int 47, .int 42]) (rg_pi1 : ¬ pi1 < 0 ∧ ¬ (255 : Int32) < pi1) (rg_pi2 : ¬ pi2 < 0 ∧ ¬ (255 : Int32) < pi2) (bg_pi3 : (255 : Int32) < pi3 ∧ ¬ (65535 : Int32) < pi3) : M5 l Z 3 2 18 40 #[.ref pa1, i0, .int 6] h0 n0 [] [] (Q97 Z pi1 pi2 pi3 h0) := by
  refine mi B5 ef5 (hEW G) fun s X0 hsf0 n0le => ?_
  have l1 := F0.l
  refine oI 1 X0 d5_0 rfl rfl <| nP (aty := .byte) 3 6 X0 (w16 G) d5_1 rfl (by decide) had_byte ?_
  intro _ h1 b1 k1 X1 _ l1 E1 V1 A1 _ S1
  have V2 : av0 Z h1 b1 k1 6 [i0, i0, i0, i0, i0, i0] := V1.pad (pad_rep [] (.int (0 : Int32)) 6)
  refine oV 4 (l' := #[rr pa1, ii 0, ii 6, rr b1, uu, uu]) X1 d5_3 rfl rfl rfl <| oA 5 X1 d5_4 rfl rfl <| oI 6 X1 d5_5 rfl rfl <| oA 7 X1 d5_6 rfl rfl <| oc 8 (v := 0) X1 d5_7 rfl (by decide) <| oI 9 X1 d5_8 rfl rfl ?_
  have f3 := F0.ext E1
  refine mS 12 0 X1 (rm_au230 G f3 V2 A1 rg_pi1 rg_pi2 bg_pi3 (by omega)) (u2 G) (sS (by omega) S1 all0) d5_9 rfl rfl rfl lr (by decide) (aR (by omega) all0) ?_
  rintro _ _ _ _ X4 ⟨rfl, _, _⟩ K4 _ _
  refine oS 14 (l' := #[rr pa1, ii 0, ii 6, rr b1, ii 3, uu]) X4 d5_12 rfl rfl <| oi 16 X4 d5_14 rfl rfl <| oI 17 X4 d5_16 rfl rfl <| oN 20 X4 d5_17 rfl (feq (by decide)).1 <| oA 21 X4 d5_20 rfl rfl <| oI 22 X4 d5_21 rfl rfl <| oI 23 X4 d5_22 rfl rfl ?_
  have f7 := f3.k1 K4 (by omega)
  refine mS 26 0 X4 (rm_au231 G f7 rg_pi1 rg_pi2 bg_pi3) (u37 G) all0 d5_23 rfl rfl rfl lr (by decide) all0 ?_
  rintro _ _ _ _ X8 ⟨xa1_9, xk1_10, rfl, q11, q12, q13, _⟩ _ _ _
  refine oU 28 (l' := #[rr pa1, ii 0, ii 6, rr b1, ii 3, rr xa1_9]) X8 d5_26 rfl rfl rfl <| oa 30 X8 d5_28 rfl rfl <| oi 32 X8 d5_30 rfl rfl <| mS 35 0 X8 (rm_getChar G q11 ⟨by decide, by decide⟩ ⟨by decide, by decide⟩ rfl rfl) (u38 G) all0 d5_32 rfl rfl rfl lr (by decide) all0 ?_
  rintro _ _ _ _ X15 rfl K15 _ C15
  refine o_sipush 38 (v := 255) X15 d5_35 rfl (by decide) <| oY 54 X15 d5_38 (by decide) (tlt (by rw [own_gcE bg_pi3]; exact bg_pi3.1)).2.2.1 <| oa 56 X15 d5_54 rfl rfl ?_
  have f16 := q11.k0 K15
  have f17 := q12.keep K15
  have f18 := C15.safe (own_lt (by omega)) q13
  exact oR X15 d5_56 rfl rfl rfl (by decide) (by decide) (fun _ CC => ⟨xa1_9, xk1_10, rfl, f16, f17, (CC.safe (own_lt (by omega)) f18), by omega⟩)
theorem rm_au233 (G : GL l Z a0 zc fmt kpp) (F0 : ex1 Z h0 pa1) (F1 : fd1 Z h0 pa1 (.int 0)) (F2 : fd0 Z h0 pa1 .null) (F3 : av1 Z h0 pa2 pk1 6 [.int 47, .int pi1, .int pi2, .int pi3, .int 47, .int 42]) (rg_pi1 : ¬ pi1 < 0 ∧ ¬ (255 : Int32) < pi1) (rg_pi2 : ¬ pi2 < 0 ∧ ¬ (255 : Int32) < pi2) (bg_pi3 : (255 : Int32) < pi3 ∧ ¬ (65535 : Int32) < pi3) (ne : NE pa1 pa2 ∧ n0 ≤ pa1) : M4 l Z 4 2 18 57 #[.ref pa1, .ref pa2, i0, .int 6, .null] h0 n0 [pa1] [pa1] (Q98 Z pa1 pi1 pi2 pi3 h0) := by
  refine mi B4 ef4 (hEW G) fun s X0 hsf0 n0le => ?_
  have := F0.l
  have := F3.l
  have sf_pa1 := hsf0 pa1 (by simp)
  refine oA 1 X0 d4_0 rfl rfl <| o_initO 4 (W := 0) X0 (w12 G) (w13 G) (w14 G) rfl (by decide) (Nat.le_of_eq rfl) (by decide) d4_1 rfl ?_
  intro _ X2
  refine oI 5 X2 d4_4 rfl rfl <| oy 27 X2 d4_5 (by decide) ((if0 _ _).trans (feq (by decide)).2) <| oG 30 X2 (w23 G) Via.refl ((sg5 G).ext X2.old.2) d4_27 rfl ?_
  intro _ X4
  refine on 33 X4 d4_30 rfl ((if0 _ _).trans (feq (hzc G)).1) <| oA 34 X4 d4_33 rfl rfl <| oI 35 X4 d4_34 rfl rfl <| oI 36 X4 d4_35 rfl rfl <| mS 39 0 X4 (rm_au232 G F3 rg_pi1 rg_pi2 bg_pi3) (u3 G) all0 d4_36 rfl rfl rfl lr (by decide) all0 ?_
  rintro _ _ _ _ X5 ⟨xa1_6, xk1_7, rfl, q8, q9, q10, _⟩ K5 _ C5
  refine oU 41 (l' := #[rr pa1, rr pa2, ii 0, ii 6, .val .null, rr xa1_6]) X5 d4_39 rfl rfl rfl <| oA 42 X5 d4_41 rfl rfl <| oa 44 X5 d4_42 rfl rfl <| oI 45 X5 d4_44 rfl rfl <| mS 48 1 X5 (rm_au193 G q8) (u4 G) all0 d4_45 rfl rfl rfl lr (by decide) all0 ?_
  rintro _ _ _ _ X12 rfl K12 _ C12
  have f13 := (F1.k0 K5).k0 K12
  have f14 := (F0.keep K5).keep K12
  have f16 := C12.safe (own_lt (by omega)) (C5.safe (own_lt (by omega)) sf_pa1)
  refine oP 51 (v' := (.int 1)) X12 (w22 G) Via.refl f13 f14 (Or.inr ⟨(w18 G), rfl, rfl⟩) (w2 G) fd_1 rfl rfl d4_48 rfl (by omega) (Or.inl (by simp)) f16 ?_
  intro _ _ X15 W15 C15
  have := W15.size
  have f17 := f13.same W15
  refine oA 52 X15 d4_51 rfl rfl <| oa 54 X15 d4_52 rfl rfl ?_
  have f18 := ((F2.k0 K5).k0 K12).other W15 (Or.inr (sn1 G))
  have f19 := f14.wr W15
  have f21 := C15.safe (own_lt (by omega)) f16
  refine oP 57 (v' := (.ref xa1_6)) X15 (w21 G) Via.refl f18 f19 (Or.inr ⟨(w17 G), rfl, rfl⟩) (w2 G) fd_0 rfl rfl d4_54 rfl (by omega) (Or.inl (by simp)) f21 ?_
  intro _ _ X20 W20 C20
  have := W20.size
  have f22 := f18.same W20
  have f23 := f19.wr W20
  have f24 := f17.other W20 (Or.inr (sn0 G))
  have f25 := ((q8.k0 K12).oth W15 (by omega)).oth W20 (by omega)
  have f26 := ((q9.keep K12).wr W15).wr W20
  have f27 := C20.safe (own_lt (by omega)) (C15.safe (own_lt (by omega)) (C12.safe (own_lt (by omega)) q10))
  exact oz X20 d4_57 rfl (by decide) (by decide) (fun _ CC => ⟨xa1_6, xk1_7, rfl, f23, f24, f22, f25, f26, (CC.safe (own_lt (by omega)) f27), by omega⟩)
theorem rm_au234 (G : GL l Z a0 zc fmt kpp) (F0 : ex1 Z h0 pa1) (F1 : fd1 Z h0 pa1 (.int 0)) (F2 : fd0 Z h0 pa1 .null) (F3 : av1 Z h0 pa2 pk1 6 [.int 47, .int pi1, .int pi2, .int pi3, .int 47, .int 42]) (rg_pi1 : ¬ pi1 < 0 ∧ ¬ (255 : Int32) < pi1) (rg_pi2 : ¬ pi2 < 0 ∧ ¬ (255 : Int32) < pi2) (bg_pi3 : (255 : Int32) < pi3 ∧ ¬ (65535 : Int32) < pi3) (ne : NE pa1 pa2 ∧ n0 ≤ pa1) : M3 l Z 5 2 18 74 #[.ref pa1, .ref pa2] h0 n0 [pa1] [pa1] (Q98 Z pa1 pi1 pi2 pi3 h0) := by
  refine mi B3 ef3 (hEW G) fun s X0 hsf0 n0le => ?_
  have := F0.l
  have := F3.l
  have sf_pa1 := hsf0 pa1 (by simp)
  refine oA 1 X0 d3_0 rfl rfl <| oA 2 X0 d3_1 rfl rfl <| oc 3 (v := 0) X0 d3_2 rfl (by decide) <| oA 4 X0 d3_3 rfl rfl <| oL 5 X0 F3 d3_4 rfl <| o_aconstNull 6 X0 d3_5 rfl <| mP 9 0 X0 (rm_au233 G F0 F1 F2 F3 rg_pi1 rg_pi2 bg_pi3 (by omega)) (u0 G) (sS (by omega) sf_pa1 all0) d3_6 rfl rfl rfl lr (by decide) (aI (by omega) (by simp) all0) ?_
  rintro _ _ _ _ X1 ⟨xa1_2, xk1_3, rfl, q4, q5, q6, q7, q8, q9, _⟩ _ _ _
  exact oz X1 d3_9 rfl (by decide) (by decide) (fun _ CC => ⟨xa1_2, xk1_3, rfl, q4, q5, q6, q7, q8, (CC.safe (own_lt (by omega)) q9), by omega⟩)
def Q112 (Z : State) (b1 : Addr) (b2 : ClassId) (b3 b4 b5 : Int32) (h0 : Heap) (v : Option Value) (h : Heap) (vm : Vm) : Prop := v = some (.int 4) ∧ av0 Z h b1 b2 4 [.int 47, .int (b3.toInt8.toInt32), .int (b4.toInt8.toInt32), .int (b5.toInt8.toInt32)] ∧ ex0 Z h b1
theorem rm_au235 (G : GL l Z a0 zc fmt kpp) (F0 : av1 Z h0 pa1 pk1 4 [.int 47, .int pi1, .int pi2, .int pi3]) (F1 : av0 Z h0 pa2 pk2 4 [i0, i0, i0, i0]) (F2 : ex0 Z h0 pa2) (rg_pi1 : ¬ pi1 < 0 ∧ ¬ (255 : Int32) < pi1) (rg_pi2 : ¬ pi2 < 0 ∧ ¬ (255 : Int32) < pi2) (rg_pi3 : ¬ pi3 < 0 ∧ ¬ (255 : Int32) < pi3) (ne : NE pa1 pa2 ∧ n0 ≤ pa2) : M6 l Z 0 0 0 0 #[.ref pa1, i0, .ref pa2, i0, .int 4] h0 n0 [pa2] [pa2] (Q112 Z pa2 pk2 pi1 pi2 pi3 h0) := by
  refine mi B6 ef6 (hEW G) fun s X0 hsf0 n0le => ?_
  have := F0.l
  have := F1.l
  have sf_pa2 := hsf0 pa2 (by simp)
  refine oc 1 (v := 0) X0 d6_0 rfl (by decide) <| oS 3 (l' := #[rr pa1, ii 0, rr pa2, ii 0, ii 4, ii 0, uu]) X0 d6_1 rfl rfl <| oi 5 X0 d6_3 rfl rfl <| oi 7 X0 d6_5 rfl rfl <| oN 10 X0 d6_7 rfl (tlt (by decide)).2.1 <| oA 11 X0 d6_10 rfl rfl <| oI 12 X0 d6_11 rfl rfl <| oC 13 (v := (.int 47)) X0 F0 ⟨by decide, by decide⟩ rfl d6_12 rfl <| oS 15 (l' := #[rr pa1, ii 0, rr pa2, ii 0, ii 4, ii 0, ii 47]) X0 d6_13 rfl rfl <| oi 17 X0 d6_15 rfl rfl <| o_sipush 20 (v := 255) X0 d6_17 rfl (by decide) <| oY 26 X0 d6_20 (by decide) (flt (by decide)).2.2.2 ?_
  refine oA 27 X0 d6_26 rfl rfl <| oI 28 X0 d6_27 rfl rfl <| oi 30 X0 d6_28 rfl rfl <| o_i2b 31 (v := 47) X0 d6_30 rfl (by decide) <| sB 32 0 47 X0 F1 (by decide) (lb rfl) (by decide) d6_31 rfl (by omega) (Or.inl (by simp)) sf_pa2 ?_
  rintro _ _ X1 ⟨_, _, W1⟩ C1 V1
  have := W1.size
  have V2 := V1.as [.int 47, i0, i0, i0] rfl
  refine oJ 35 1 #[rr pa1, ii 1, rr pa2, ii 0, ii 4, ii 0, ii 47] X1 d6_32 rfl rfl (by decide) rfl <| oJ 38 1 #[rr pa1, ii 1, rr pa2, ii 1, ii 4, ii 0, ii 47] X1 d6_35 rfl rfl (by decide) rfl <| oJ 41 1 #[rr pa1, ii 1, rr pa2, ii 1, ii 4, ii 1, ii 47] X1 d6_38 rfl rfl (by decide) rfl <| og 3 X1 d6_41 (by decide) <| oi 5 X1 d6_3 rfl rfl <| oi 7 X1 d6_5 rfl rfl <| oN 10 X1 d6_7 rfl (tlt (by decide)).2.1 <| oA 11 X1 d6_10 rfl rfl <| oI 12 X1 d6_11 rfl rfl ?_
  have f3 := F0.oth W1 (by omega)
  refine oC 13 (v := (.int pi1)) X1 f3 ⟨by decide, by decide⟩ rfl d6_12 rfl <| oS 15 (l' := #[rr pa1, ii 1, rr pa2, ii 1, ii 4, ii 1, ii pi1]) X1 d6_13 rfl rfl <| oi 17 X1 d6_15 rfl rfl <| o_sipush 20 (v := 255) X1 d6_17 rfl (by decide) <| oY 26 X1 d6_20 (by decide) (flt rg_pi1.2).2.2.2 <| oA 27 X1 d6_26 rfl rfl <| oI 28 X1 d6_27 rfl rfl <| oi 30 X1 d6_28 rfl rfl <| o_i2b 31 (v := (pi1.toInt8.toInt32)) X1 d6_30 rfl rfl ?_
  have f5 := C1.safe (own_lt (by omega)) sf_pa2
  refine sB 32 1 (pi1.toInt8.toInt32) X1 V2 (by decide) (lb rfl) (own_narB _) d6_31 rfl (by omega) (Or.inl (by simp)) f5 ?_
  rintro _ _ X4 ⟨_, _, W4⟩ C4 V4
  have := W4.size
  have V6 := V4.as [.int 47, .int (pi1.toInt8.toInt32), i0, i0] rfl
  refine oJ 35 2 #[rr pa1, ii 2, rr pa2, ii 1, ii 4, ii 1, ii pi1] X4 d6_32 rfl rfl (by decide) rfl <| oJ 38 2 #[rr pa1, ii 2, rr pa2, ii 2, ii 4, ii 1, ii pi1] X4 d6_35 rfl rfl (by decide) rfl <| oJ 41 2 #[rr pa1, ii 2, rr pa2, ii 2, ii 4, ii 2, ii pi1] X4 d6_38 rfl rfl (by decide) rfl <| og 3 X4 d6_41 (by decide) <| oi 5 X4 d6_3 rfl rfl <| oi 7 X4 d6_5 rfl rfl <| oN 10 X4 d6_7 rfl (tlt (by decide)).2.1 <| oA 11 X4 d6_10 rfl rfl <| oI 12 X4 d6_11 rfl rfl ?_
  have f7 := f3.oth W4 (by omega)
  refine oC 13 (v := (.int pi2)) X4 f7 ⟨by decide, by decide⟩ rfl d6_12 rfl <| oS 15 (l' := #[rr pa1, ii 2, rr pa2, ii 2, ii 4, ii 2, ii pi2]) X4 d6_13 rfl rfl <| oi 17 X4 d6_15 rfl rfl <| o_sipush 20 (v := 255) X4 d6_17 rfl (by decide) <| oY 26 X4 d6_20 (by decide) (flt rg_pi2.2).2.2.2 <| oA 27 X4 d6_26 rfl rfl <| oI 28 X4 d6_27 rfl rfl <| oi 30 X4 d6_28 rfl rfl <| o_i2b 31 (v := (pi2.toInt8.toInt32)) X4 d6_30 rfl rfl ?_
  have f9 := C4.safe (own_lt (by omega)) f5
  refine sB 32 2 (pi2.toInt8.toInt32) X4 V6 (by decide) (lb rfl) (own_narB _) d6_31 rfl (by omega) (Or.inl (by simp)) f9 ?_
  rintro _ _ X8 ⟨_, _, W8⟩ C8 V8
  have := W8.size
  have V10 := V8.as [.int 47, .int (pi1.toInt8.toInt32), .int (pi2.toInt8.toInt32), i0] rfl
  refine oJ 35 3 #[rr pa1, ii 3, rr pa2, ii 2, ii 4, ii 2, ii pi2] X8 d6_32 rfl rfl (by decide) rfl <| oJ 38 3 #[rr pa1, ii 3, rr pa2, ii 3, ii 4, ii 2, ii pi2] X8 d6_35 rfl rfl (by decide) rfl <| oJ 41 3 #[rr pa1, ii 3, rr pa2, ii 3, ii 4, ii 3, ii pi2] X8 d6_38 rfl rfl (by decide) rfl <| og 3 X8 d6_41 (by decide) <| oi 5 X8 d6_3 rfl rfl <| oi 7 X8 d6_5 rfl rfl <| oN 10 X8 d6_7 rfl (tlt (by decide)).2.1 <| oA 11 X8 d6_10 rfl rfl <| oI 12 X8 d6_11 rfl rfl ?_
  have f11 := f7.oth W8 (by omega)
  refine oC 13 (v := (.int pi3)) X8 f11 ⟨by decide, by decide⟩ rfl d6_12 rfl <| oS 15 (l' := #[rr pa1, ii 3, rr pa2, ii 3, ii 4, ii 3, ii pi3]) X8 d6_13 rfl rfl <| oi 17 X8 d6_15 rfl rfl <| o_sipush 20 (v := 255) X8 d6_17 rfl (by decide) <| oY 26 X8 d6_20 (by decide) (flt rg_pi3.2).2.2.2 <| oA 27 X8 d6_26 rfl rfl <| oI 28 X8 d6_27 rfl rfl <| oi 30 X8 d6_28 rfl rfl <| o_i2b 31 (v := (pi3.toInt8.toInt32)) X8 d6_30 rfl rfl ?_
  have f13 := C8.safe (own_lt (by omega)) f9
  refine sB 32 3 (pi3.toInt8.toInt32) X8 V10 (by decide) (lb rfl) (own_narB _) d6_31 rfl (by omega) (Or.inl (by simp)) f13 ?_
  rintro _ _ X12 ⟨_, _, W12⟩ _ V12
  have := W12.size
  have V14 := V12.as [.int 47, .int (pi1.toInt8.toInt32), .int (pi2.toInt8.toInt32), .int (pi3.toInt8.toInt32)] rfl
  refine oJ 35 4 #[rr pa1, ii 4, rr pa2, ii 3, ii 4, ii 3, ii pi3] X12 d6_32 rfl rfl (by decide) rfl <| oJ 38 4 #[rr pa1, ii 4, rr pa2, ii 4, ii 4, ii 3, ii pi3] X12 d6_35 rfl rfl (by decide) rfl <| oJ 41 4 #[rr pa1, ii 4, rr pa2, ii 4, ii 4, ii 4, ii pi3] X12 d6_38 rfl rfl (by decide) rfl <| og 3 X12 d6_41 (by decide) <| oi 5 X12 d6_3 rfl rfl <| oi 7 X12 d6_5 rfl rfl <| oY 44 X12 d6_7 (by decide) (flt (by decide)).2.1 <| oi 46 X12 d6_44 rfl rfl ?_
  have f15 := (((F2.wr W1).wr W4).wr W8).wr W12
  exact o_iret X12 d6_46 rfl (by decide) (by decide) (fun _ CC => ⟨rfl, V14, f15⟩)
def Q113 (Z : State) (b1 b2 b3 : Int32) (h0 : Heap) (v : Option Value) (h : Heap) (vm : Vm) : Prop := ∃ (xa1 : Addr) (xk1 : ClassId), v = some (.ref xa1) ∧ av0 Z h xa1 xk1 4 [.int 47, .int (b1.toInt8.toInt32), .int (b2.toInt8.toInt32), .int (b3.toInt8.toInt32)] ∧ ex0 Z h xa1 ∧ Safe Z EL0 vm h xa1 ∧ h0.size ≤ xa1 ∧ h.size > xa1
theorem rm_au236 (G : GL l Z a0 zc fmt kpp) (F0 : av1 Z h0 pa1 pk1 4 [.int 47, .int pi1, .int pi2, .int pi3]) (rg_pi1 : ¬ pi1 < 0 ∧ ¬ (255 : Int32) < pi1) (rg_pi2 : ¬ pi2 < 0 ∧ ¬ (255 : Int32) < pi2) (rg_pi3 : ¬ pi3 < 0 ∧ ¬ (255 : Int32) < pi3) : M5 l Z 1 1 4 18 #[.ref pa1, i0, .int 4] h0 n0 [] [] (Q113 Z pi1 pi2 pi3 h0) := by
  refine mi B5 ef5 (hEW G) fun s X0 hsf0 n0le => ?_
  have l1 := F0.l
  refine oI 1 X0 d5_0 rfl rfl <| nP (aty := .byte) 3 4 X0 (w16 G) d5_1 rfl (by decide) had_byte ?_
  intro _ h1 b1 k1 X1 _ l1 E1 V1 A1 _ S1
  have V2 : av0 Z h1 b1 k1 4 [i0, i0, i0, i0] := V1.pad (pad_rep [] (.int (0 : Int32)) 4)
  refine oV 4 (l' := #[rr pa1, ii 0, ii 4, rr b1, uu, uu]) X1 d5_3 rfl rfl rfl <| oA 5 X1 d5_4 rfl rfl <| oI 6 X1 d5_5 rfl rfl <| oA 7 X1 d5_6 rfl rfl <| oc 8 (v := 0) X1 d5_7 rfl (by decide) <| oI 9 X1 d5_8 rfl rfl ?_
  have f3 := F0.ext E1
  refine mS 12 0 X1 (rm_au235 G f3 V2 A1 rg_pi1 rg_pi2 rg_pi3 (by omega)) (u2 G) (sS (by omega) S1 all0) d5_9 rfl rfl rfl lr (by decide) (aR (by omega) all0) ?_
  rintro _ _ _ _ X4 ⟨rfl, q5, q6⟩ _ _ C4
  refine oS 14 (l' := #[rr pa1, ii 0, ii 4, rr b1, ii 4, uu]) X4 d5_12 rfl rfl <| oi 16 X4 d5_14 rfl rfl <| oI 17 X4 d5_16 rfl rfl <| oY 57 X4 d5_17 (by decide) (teq (by decide)).1 <| oA 58 X4 d5_57 rfl rfl ?_
  have f7 := C4.safe (own_lt (by omega)) S1
  exact oR X4 d5_58 rfl rfl rfl (by decide) (by decide) (fun _ CC => ⟨b1, k1, rfl, q5, q6, (CC.safe (own_lt (by omega)) f7), by omega⟩)
def Q114 (Z : State) (b1 : Addr) (b2 b3 b4 : Int32) (h0 : Heap) (v : Option Value) (h : Heap) (vm : Vm) : Prop := ∃ (xa1 : Addr) (xk1 : ClassId), v = none ∧ ex1 Z h b1 ∧ fd1 Z h b1 (.int 0) ∧ fd0 Z h b1 (.ref xa1) ∧ av0 Z h xa1 xk1 4 [.int 47, .int (b2.toInt8.toInt32), .int (b3.toInt8.toInt32), .int (b4.toInt8.toInt32)] ∧ ex0 Z h xa1 ∧ Safe Z EL0 vm h xa1 ∧ h0.size ≤ xa1 ∧ h.size > xa1
theorem rm_au237 (G : GL l Z a0 zc fmt kpp) (F0 : ex1 Z h0 pa1) (F1 : fd1 Z h0 pa1 (.int 0)) (F2 : fd0 Z h0 pa1 .null) (F3 : av1 Z h0 pa2 pk1 4 [.int 47, .int pi1, .int pi2, .int pi3]) (rg_pi1 : ¬ pi1 < 0 ∧ ¬ (255 : Int32) < pi1) (rg_pi2 : ¬ pi2 < 0 ∧ ¬ (255 : Int32) < pi2) (rg_pi3 : ¬ pi3 < 0 ∧ ¬ (255 : Int32) < pi3) (ne : NE pa1 pa2 ∧ n0 ≤ pa1) : M4 l Z 2 1 4 35 #[.ref pa1, .ref pa2, i0, .int 4, .null] h0 n0 [pa1] [pa1] (Q114 Z pa1 pi1 pi2 pi3 h0) := by
  refine mi B4 ef4 (hEW G) fun s X0 hsf0 n0le => ?_
  have := F0.l
  have := F3.l
  have sf_pa1 := hsf0 pa1 (by simp)
  refine oA 1 X0 d4_0 rfl rfl <| o_initO 4 (W := 0) X0 (w12 G) (w13 G) (w14 G) rfl (by decide) (Nat.le_of_eq rfl) (by decide) d4_1 rfl ?_
  intro _ X2
  refine oI 5 X2 d4_4 rfl rfl <| oy 27 X2 d4_5 (by decide) ((if0 _ _).trans (feq (by decide)).2) <| oG 30 X2 (w23 G) Via.refl ((sg5 G).ext X2.old.2) d4_27 rfl ?_
  intro _ X4
  refine on 33 X4 d4_30 rfl ((if0 _ _).trans (feq (hzc G)).1) <| oA 34 X4 d4_33 rfl rfl <| oI 35 X4 d4_34 rfl rfl <| oI 36 X4 d4_35 rfl rfl <| mS 39 0 X4 (rm_au236 G F3 rg_pi1 rg_pi2 rg_pi3) (u3 G) all0 d4_36 rfl rfl rfl lr (by decide) all0 ?_
  rintro _ _ _ _ X5 ⟨xa1_6, xk1_7, rfl, q8, q9, q10, _⟩ K5 _ C5
  refine oU 41 (l' := #[rr pa1, rr pa2, ii 0, ii 4, .val .null, rr xa1_6]) X5 d4_39 rfl rfl rfl <| oA 42 X5 d4_41 rfl rfl <| oa 44 X5 d4_42 rfl rfl <| oI 45 X5 d4_44 rfl rfl <| mS 48 1 X5 (rm_au96 G q8) (u4 G) all0 d4_45 rfl rfl rfl lr (by decide) all0 ?_
  rintro _ _ _ _ X12 rfl K12 _ C12
  have f13 := (F1.k0 K5).k0 K12
  have f14 := (F0.keep K5).keep K12
  have f16 := C12.safe (own_lt (by omega)) (C5.safe (own_lt (by omega)) sf_pa1)
  refine oP 51 (v' := (.int 0)) X12 (w22 G) Via.refl f13 f14 (Or.inr ⟨(w18 G), rfl, rfl⟩) (w2 G) fd_1 rfl rfl d4_48 rfl (by omega) (Or.inl (by simp)) f16 ?_
  intro _ _ X15 W15 C15
  have := W15.size
  have f17 := f13.same W15
  refine oA 52 X15 d4_51 rfl rfl <| oa 54 X15 d4_52 rfl rfl ?_
  have f18 := ((F2.k0 K5).k0 K12).other W15 (Or.inr (sn1 G))
  have f19 := f14.wr W15
  have f21 := C15.safe (own_lt (by omega)) f16
  refine oP 57 (v' := (.ref xa1_6)) X15 (w21 G) Via.refl f18 f19 (Or.inr ⟨(w17 G), rfl, rfl⟩) (w2 G) fd_0 rfl rfl d4_54 rfl (by omega) (Or.inl (by simp)) f21 ?_
  intro _ _ X20 W20 C20
  have := W20.size
  have f22 := f18.same W20
  have f23 := f19.wr W20
  have f24 := f17.other W20 (Or.inr (sn0 G))
  have f25 := ((q8.k0 K12).oth W15 (by omega)).oth W20 (by omega)
  have f26 := ((q9.keep K12).wr W15).wr W20
  have f27 := C20.safe (own_lt (by omega)) (C15.safe (own_lt (by omega)) (C12.safe (own_lt (by omega)) q10))
  exact oz X20 d4_57 rfl (by decide) (by decide) (fun _ CC => ⟨xa1_6, xk1_7, rfl, f23, f24, f22, f25, f26, (CC.safe (own_lt (by omega)) f27), by omega⟩)
theorem rm_au238 (G : GL l Z a0 zc fmt kpp) (F0 : ex1 Z h0 pa1) (F1 : fd1 Z h0 pa1 (.int 0)) (F2 : fd0 Z h0 pa1 .null) (F3 : av1 Z h0 pa2 pk1 4 [.int 47, .int pi1, .int pi2, .int pi3]) (rg_pi1 : ¬ pi1 < 0 ∧ ¬ (255 : Int32) < pi1) (rg_pi2 : ¬ pi2 < 0 ∧ ¬ (255 : Int32) < pi2) (rg_pi3 : ¬ pi3 < 0 ∧ ¬ (255 : Int32) < pi3) (ne : NE pa1 pa2 ∧ n0 ≤ pa1) : M3 l Z 3 1 4 52 #[.ref pa1, .ref pa2] h0 n0 [pa1] [pa1] (Q114 Z pa1 pi1 pi2 pi3 h0) := by
  refine mi B3 ef3 (hEW G) fun s X0 hsf0 n0le => ?_
  have := F0.l
  have := F3.l
  have sf_pa1 := hsf0 pa1 (by simp)
  refine oA 1 X0 d3_0 rfl rfl <| oA 2 X0 d3_1 rfl rfl <| oc 3 (v := 0) X0 d3_2 rfl (by decide) <| oA 4 X0 d3_3 rfl rfl <| oL 5 X0 F3 d3_4 rfl <| o_aconstNull 6 X0 d3_5 rfl <| mP 9 0 X0 (rm_au237 G F0 F1 F2 F3 rg_pi1 rg_pi2 rg_pi3 (by omega)) (u0 G) (sS (by omega) sf_pa1 all0) d3_6 rfl rfl rfl lr (by decide) (aI (by omega) (by simp) all0) ?_
  rintro _ _ _ _ X1 ⟨xa1_2, xk1_3, rfl, q4, q5, q6, q7, q8, q9, _⟩ _ _ _
  exact oz X1 d3_9 rfl (by decide) (by decide) (fun _ CC => ⟨xa1_2, xk1_3, rfl, q4, q5, q6, q7, q8, (CC.safe (own_lt (by omega)) q9), by omega⟩)
def Q115 (Z : State) (b1 : Addr) (b2 : ClassId) (b3 b4 b5 : Int32) (h0 : Heap) (v : Option Value) (h : Heap) (vm : Vm) : Prop := v = some (.int 6) ∧ av0 Z h b1 b2 6 [.int 47, .int (b3.toInt8.toInt32), .int (b4.toInt8.toInt32), .int (b5.toInt8.toInt32), .int 47, .int 42] ∧ ex0 Z h b1
theorem rm_au239 (G : GL l Z a0 zc fmt kpp) (F0 : av1 Z h0 pa1 pk1 6 [.int 47, .int pi1, .int pi2, .int pi3, .int 47, .int 42]) (F1 : av0 Z h0 pa2 pk2 6 [i0, i0, i0, i0, i0, i0]) (F2 : ex0 Z h0 pa2) (rg_pi1 : ¬ pi1 < 0 ∧ ¬ (255 : Int32) < pi1) (rg_pi2 : ¬ pi2 < 0 ∧ ¬ (255 : Int32) < pi2) (rg_pi3 : ¬ pi3 < 0 ∧ ¬ (255 : Int32) < pi3) (ne : NE pa1 pa2 ∧ n0 ≤ pa2) : M6 l Z 0 0 0 0 #[.ref pa1, i0, .ref pa2, i0, .int 6] h0 n0 [pa2] [pa2] (Q115 Z pa2 pk2 pi1 pi2 pi3 h0) := by
  refine mi B6 ef6 (hEW G) fun s X0 hsf0 n0le => ?_
  have := F0.l
  have := F1.l
  have sf_pa2 := hsf0 pa2 (by simp)
  refine oc 1 (v := 0) X0 d6_0 rfl (by decide) <| oS 3 (l' := #[rr pa1, ii 0, rr pa2, ii 0, ii 6, ii 0, uu]) X0 d6_1 rfl rfl <| oi 5 X0 d6_3 rfl rfl <| oi 7 X0 d6_5 rfl rfl <| oN 10 X0 d6_7 rfl (tlt (by decide)).2.1 <| oA 11 X0 d6_10 rfl rfl <| oI 12 X0 d6_11 rfl rfl <| oC 13 (v := (.int 47)) X0 F0 ⟨by decide, by decide⟩ rfl d6_12 rfl <| oS 15 (l' := #[rr pa1, ii 0, rr pa2, ii 0, ii 6, ii 0, ii 47]) X0 d6_13 rfl rfl <| oi 17 X0 d6_15 rfl rfl <| o_sipush 20 (v := 255) X0 d6_17 rfl (by decide) <| oY 26 X0 d6_20 (by decide) (flt (by decide)).2.2.2 ?_
  refine oA 27 X0 d6_26 rfl rfl <| oI 28 X0 d6_27 rfl rfl <| oi 30 X0 d6_28 rfl rfl <| o_i2b 31 (v := 47) X0 d6_30 rfl (by decide) <| sB 32 0 47 X0 F1 (by decide) (lb rfl) (by decide) d6_31 rfl (by omega) (Or.inl (by simp)) sf_pa2 ?_
  rintro _ _ X1 ⟨_, _, W1⟩ C1 V1
  have := W1.size
  have V2 := V1.as [.int 47, i0, i0, i0, i0, i0] rfl
  refine oJ 35 1 #[rr pa1, ii 1, rr pa2, ii 0, ii 6, ii 0, ii 47] X1 d6_32 rfl rfl (by decide) rfl <| oJ 38 1 #[rr pa1, ii 1, rr pa2, ii 1, ii 6, ii 0, ii 47] X1 d6_35 rfl rfl (by decide) rfl <| oJ 41 1 #[rr pa1, ii 1, rr pa2, ii 1, ii 6, ii 1, ii 47] X1 d6_38 rfl rfl (by decide) rfl <| og 3 X1 d6_41 (by decide) <| oi 5 X1 d6_3 rfl rfl <| oi 7 X1 d6_5 rfl rfl <| oN 10 X1 d6_7 rfl (tlt (by decide)).2.1 <| oA 11 X1 d6_10 rfl rfl <| oI 12 X1 d6_11 rfl rfl ?_
  have f3 := F0.oth W1 (by omega)
  refine oC 13 (v := (.int pi1)) X1 f3 ⟨by decide, by decide⟩ rfl d6_12 rfl <| oS 15 (l' := #[rr pa1, ii 1, rr pa2, ii 1, ii 6, ii 1, ii pi1]) X1 d6_13 rfl rfl <| oi 17 X1 d6_15 rfl rfl <| o_sipush 20 (v := 255) X1 d6_17 rfl (by decide) <| oY 26 X1 d6_20 (by decide) (flt rg_pi1.2).2.2.2 <| oA 27 X1 d6_26 rfl rfl <| oI 28 X1 d6_27 rfl rfl <| oi 30 X1 d6_28 rfl rfl <| o_i2b 31 (v := (pi1.toInt8.toInt32)) X1 d6_30 rfl rfl ?_
  have f5 := C1.safe (own_lt (by omega)) sf_pa2
  refine sB 32 1 (pi1.toInt8.toInt32) X1 V2 (by decide) (lb rfl) (own_narB _) d6_31 rfl (by omega) (Or.inl (by simp)) f5 ?_
  rintro _ _ X4 ⟨_, _, W4⟩ C4 V4
  have := W4.size
  have V6 := V4.as [.int 47, .int (pi1.toInt8.toInt32), i0, i0, i0, i0] rfl
  refine oJ 35 2 #[rr pa1, ii 2, rr pa2, ii 1, ii 6, ii 1, ii pi1] X4 d6_32 rfl rfl (by decide) rfl <| oJ 38 2 #[rr pa1, ii 2, rr pa2, ii 2, ii 6, ii 1, ii pi1] X4 d6_35 rfl rfl (by decide) rfl <| oJ 41 2 #[rr pa1, ii 2, rr pa2, ii 2, ii 6, ii 2, ii pi1] X4 d6_38 rfl rfl (by decide) rfl <| og 3 X4 d6_41 (by decide) <| oi 5 X4 d6_3 rfl rfl <| oi 7 X4 d6_5 rfl rfl <| oN 10 X4 d6_7 rfl (tlt (by decide)).2.1 <| oA 11 X4 d6_10 rfl rfl <| oI 12 X4 d6_11 rfl rfl ?_
  have f7 := f3.oth W4 (by omega)
  refine oC 13 (v := (.int pi2)) X4 f7 ⟨by decide, by decide⟩ rfl d6_12 rfl <| oS 15 (l' := #[rr pa1, ii 2, rr pa2, ii 2, ii 6, ii 2, ii pi2]) X4 d6_13 rfl rfl <| oi 17 X4 d6_15 rfl rfl <| o_sipush 20 (v := 255) X4 d6_17 rfl (by decide) <| oY 26 X4 d6_20 (by decide) (flt rg_pi2.2).2.2.2 <| oA 27 X4 d6_26 rfl rfl <| oI 28 X4 d6_27 rfl rfl <| oi 30 X4 d6_28 rfl rfl <| o_i2b 31 (v := (pi2.toInt8.toInt32)) X4 d6_30 rfl rfl ?_
  have f9 := C4.safe (own_lt (by omega)) f5
  refine sB 32 2 (pi2.toInt8.toInt32) X4 V6 (by decide) (lb rfl) (own_narB _) d6_31 rfl (by omega) (Or.inl (by simp)) f9 ?_
  rintro _ _ X8 ⟨_, _, W8⟩ C8 V8
  have := W8.size
  have V10 := V8.as [.int 47, .int (pi1.toInt8.toInt32), .int (pi2.toInt8.toInt32), i0, i0, i0] rfl
  refine oJ 35 3 #[rr pa1, ii 3, rr pa2, ii 2, ii 6, ii 2, ii pi2] X8 d6_32 rfl rfl (by decide) rfl <| oJ 38 3 #[rr pa1, ii 3, rr pa2, ii 3, ii 6, ii 2, ii pi2] X8 d6_35 rfl rfl (by decide) rfl <| oJ 41 3 #[rr pa1, ii 3, rr pa2, ii 3, ii 6, ii 3, ii pi2] X8 d6_38 rfl rfl (by decide) rfl <| og 3 X8 d6_41 (by decide) <| oi 5 X8 d6_3 rfl rfl <| oi 7 X8 d6_5 rfl rfl <| oN 10 X8 d6_7 rfl (tlt (by decide)).2.1 <| oA 11 X8 d6_10 rfl rfl <| oI 12 X8 d6_11 rfl rfl ?_
  have f11 := f7.oth W8 (by omega)
  refine oC 13 (v := (.int pi3)) X8 f11 ⟨by decide, by decide⟩ rfl d6_12 rfl <| oS 15 (l' := #[rr pa1, ii 3, rr pa2, ii 3, ii 6, ii 3, ii pi3]) X8 d6_13 rfl rfl <| oi 17 X8 d6_15 rfl rfl <| o_sipush 20 (v := 255) X8 d6_17 rfl (by decide) <| oY 26 X8 d6_20 (by decide) (flt rg_pi3.2).2.2.2 <| oA 27 X8 d6_26 rfl rfl <| oI 28 X8 d6_27 rfl rfl <| oi 30 X8 d6_28 rfl rfl <| o_i2b 31 (v := (pi3.toInt8.toInt32)) X8 d6_30 rfl rfl ?_
  have f13 := C8.safe (own_lt (by omega)) f9
  refine sB 32 3 (pi3.toInt8.toInt32) X8 V10 (by decide) (lb rfl) (own_narB _) d6_31 rfl (by omega) (Or.inl (by simp)) f13 ?_
  rintro _ _ X12 ⟨_, _, W12⟩ C12 V12
  have := W12.size
  have V14 := V12.as [.int 47, .int (pi1.toInt8.toInt32), .int (pi2.toInt8.toInt32), .int (pi3.toInt8.toInt32), i0, i0] rfl
  refine oJ 35 4 #[rr pa1, ii 4, rr pa2, ii 3, ii 6, ii 3, ii pi3] X12 d6_32 rfl rfl (by decide) rfl <| oJ 38 4 #[rr pa1, ii 4, rr pa2, ii 4, ii 6, ii 3, ii pi3] X12 d6_35 rfl rfl (by decide) rfl <| oJ 41 4 #[rr pa1, ii 4, rr pa2, ii 4, ii 6, ii 4, ii pi3] X12 d6_38 rfl rfl (by decide) rfl <| og 3 X12 d6_41 (by decide) <| oi 5 X12 d6_3 rfl rfl <| oi 7 X12 d6_5 rfl rfl <| oN 10 X12 d6_7 rfl (tlt (by decide)).2.1 <| oA 11 X12 d6_10 rfl rfl <| oI 12 X12 d6_11 rfl rfl ?_
  have f15 := f11.oth W12 (by omega)
  refine oC 13 (v := (.int 47)) X12 f15 ⟨by decide, by decide⟩ rfl d6_12 rfl <| oS 15 (l' := #[rr pa1, ii 4, rr pa2, ii 4, ii 6, ii 4, ii 47]) X12 d6_13 rfl rfl <| oi 17 X12 d6_15 rfl rfl <| o_sipush 20 (v := 255) X12 d6_17 rfl (by decide) <| oY 26 X12 d6_20 (by decide) (flt (by decide)).2.2.2 <| oA 27 X12 d6_26 rfl rfl <| oI 28 X12 d6_27 rfl rfl <| oi 30 X12 d6_28 rfl rfl <| o_i2b 31 (v := 47) X12 d6_30 rfl (by decide) ?_
  have f17 := C12.safe (own_lt (by omega)) f13
  refine sB 32 4 47 X12 V14 (by decide) (lb rfl) (by decide) d6_31 rfl (by omega) (Or.inl (by simp)) f17 ?_
  rintro _ _ X16 ⟨_, _, W16⟩ C16 V16
  have := W16.size
  have V18 := V16.as [.int 47, .int (pi1.toInt8.toInt32), .int (pi2.toInt8.toInt32), .int (pi3.toInt8.toInt32), .int 47, i0] rfl
  refine oJ 35 5 #[rr pa1, ii 5, rr pa2, ii 4, ii 6, ii 4, ii 47] X16 d6_32 rfl rfl (by decide) rfl <| oJ 38 5 #[rr pa1, ii 5, rr pa2, ii 5, ii 6, ii 4, ii 47] X16 d6_35 rfl rfl (by decide) rfl <| oJ 41 5 #[rr pa1, ii 5, rr pa2, ii 5, ii 6, ii 5, ii 47] X16 d6_38 rfl rfl (by decide) rfl <| og 3 X16 d6_41 (by decide) <| oi 5 X16 d6_3 rfl rfl <| oi 7 X16 d6_5 rfl rfl <| oN 10 X16 d6_7 rfl (tlt (by decide)).2.1 <| oA 11 X16 d6_10 rfl rfl <| oI 12 X16 d6_11 rfl rfl ?_
  have f19 := f15.oth W16 (by omega)
  refine oC 13 (v := (.int 42)) X16 f19 ⟨by decide, by decide⟩ rfl d6_12 rfl <| oS 15 (l' := #[rr pa1, ii 5, rr pa2, ii 5, ii 6, ii 5, ii 42]) X16 d6_13 rfl rfl <| oi 17 X16 d6_15 rfl rfl <| o_sipush 20 (v := 255) X16 d6_17 rfl (by decide) <| oY 26 X16 d6_20 (by decide) (flt (by decide)).2.2.2 <| oA 27 X16 d6_26 rfl rfl <| oI 28 X16 d6_27 rfl rfl <| oi 30 X16 d6_28 rfl rfl <| o_i2b 31 (v := 42) X16 d6_30 rfl (by decide) ?_
  have f21 := C16.safe (own_lt (by omega)) f17
  refine sB 32 5 42 X16 V18 (by decide) (lb rfl) (by decide) d6_31 rfl (by omega) (Or.inl (by simp)) f21 ?_
  rintro _ _ X20 ⟨_, _, W20⟩ _ V20
  have := W20.size
  have V22 := V20.as [.int 47, .int (pi1.toInt8.toInt32), .int (pi2.toInt8.toInt32), .int (pi3.toInt8.toInt32), .int 47, .int 42] rfl
  refine oJ 35 6 #[rr pa1, ii 6, rr pa2, ii 5, ii 6, ii 5, ii 42] X20 d6_32 rfl rfl (by decide) rfl <| oJ 38 6 #[rr pa1, ii 6, rr pa2, ii 6, ii 6, ii 5, ii 42] X20 d6_35 rfl rfl (by decide) rfl <| oJ 41 6 #[rr pa1, ii 6, rr pa2, ii 6, ii 6, ii 6, ii 42] X20 d6_38 rfl rfl (by decide) rfl <| og 3 X20 d6_41 (by decide) <| oi 5 X20 d6_3 rfl rfl <| oi 7 X20 d6_5 rfl rfl <| oY 44 X20 d6_7 (by decide) (flt (by decide)).2.1 <| oi 46 X20 d6_44 rfl rfl ?_
  have f23 := (((((F2.wr W1).wr W4).wr W8).wr W12).wr W16).wr W20
  exact o_iret X20 d6_46 rfl (by decide) (by decide) (fun _ CC => ⟨rfl, V22, f23⟩)
def Q116 (Z : State) (b1 b2 b3 : Int32) (h0 : Heap) (v : Option Value) (h : Heap) (vm : Vm) : Prop := ∃ (xa1 : Addr) (xk1 : ClassId), v = some (.ref xa1) ∧ av0 Z h xa1 xk1 6 [.int 47, .int (b1.toInt8.toInt32), .int (b2.toInt8.toInt32), .int (b3.toInt8.toInt32), .int 47, .int 42] ∧ ex0 Z h xa1 ∧ Safe Z EL0 vm h xa1 ∧ h0.size ≤ xa1 ∧ h.size > xa1
theorem rm_au240 (G : GL l Z a0 zc fmt kpp) (F0 : av1 Z h0 pa1 pk1 6 [.int 47, .int pi1, .int pi2, .int pi3, .int 47, .int 42]) (rg_pi1 : ¬ pi1 < 0 ∧ ¬ (255 : Int32) < pi1) (rg_pi2 : ¬ pi2 < 0 ∧ ¬ (255 : Int32) < pi2) (rg_pi3 : ¬ pi3 < 0 ∧ ¬ (255 : Int32) < pi3) : M5 l Z 1 1 6 18 #[.ref pa1, i0, .int 6] h0 n0 [] [] (Q116 Z pi1 pi2 pi3 h0) := by
  refine mi B5 ef5 (hEW G) fun s X0 hsf0 n0le => ?_
  have l1 := F0.l
  refine oI 1 X0 d5_0 rfl rfl <| nP (aty := .byte) 3 6 X0 (w16 G) d5_1 rfl (by decide) had_byte ?_
  intro _ h1 b1 k1 X1 _ l1 E1 V1 A1 _ S1
  have V2 : av0 Z h1 b1 k1 6 [i0, i0, i0, i0, i0, i0] := V1.pad (pad_rep [] (.int (0 : Int32)) 6)
  refine oV 4 (l' := #[rr pa1, ii 0, ii 6, rr b1, uu, uu]) X1 d5_3 rfl rfl rfl <| oA 5 X1 d5_4 rfl rfl <| oI 6 X1 d5_5 rfl rfl <| oA 7 X1 d5_6 rfl rfl <| oc 8 (v := 0) X1 d5_7 rfl (by decide) <| oI 9 X1 d5_8 rfl rfl ?_
  have f3 := F0.ext E1
  refine mS 12 0 X1 (rm_au239 G f3 V2 A1 rg_pi1 rg_pi2 rg_pi3 (by omega)) (u2 G) (sS (by omega) S1 all0) d5_9 rfl rfl rfl lr (by decide) (aR (by omega) all0) ?_
  rintro _ _ _ _ X4 ⟨rfl, q5, q6⟩ _ _ C4
  refine oS 14 (l' := #[rr pa1, ii 0, ii 6, rr b1, ii 6, uu]) X4 d5_12 rfl rfl <| oi 16 X4 d5_14 rfl rfl <| oI 17 X4 d5_16 rfl rfl <| oY 57 X4 d5_17 (by decide) (teq (by decide)).1 <| oA 58 X4 d5_57 rfl rfl ?_
  have f7 := C4.safe (own_lt (by omega)) S1
  exact oR X4 d5_58 rfl rfl rfl (by decide) (by decide) (fun _ CC => ⟨b1, k1, rfl, q5, q6, (CC.safe (own_lt (by omega)) f7), by omega⟩)
theorem rm_au241 (G : GL l Z a0 zc fmt kpp) (F0 : av0 Z h0 pa1 pk1 6 ps_pa1) : M7 l Z 0 0 0 0 #[.ref pa1, .int 6] h0 n0 [] [] (Q5 Z  h0) := by
  refine mi B7 ef1 (hEW G) fun s X0 hsf0 n0le => ?_
  have := F0.l
  refine oI 1 X0 d7_0 rfl rfl <| oA 2 X0 d7_1 rfl rfl <| oL 3 X0 F0 d7_2 rfl <| o_isub 4 (v := 0) X0 d7_3 rfl (by decide) <| ob 6 (v := 31) X0 d7_4 rfl (by decide) <| o_iushr 7 (v := 0) X0 d7_6 rfl (by decide) <| o_i2b 8 (v := 0) X0 d7_7 rfl (by decide) ?_
  exact o_nret (y := (0 : Int32)) (t := .byte) X0 d7_8 rfl (by decide) (by simp) (by decide) (by decide) (fun _ CC => rfl)
def Q117 (Z : State) (b1 : Addr) (b2 b3 b4 : Int32) (h0 : Heap) (v : Option Value) (h : Heap) (vm : Vm) : Prop := ∃ (xa1 : Addr) (xk1 : ClassId), v = none ∧ ex1 Z h b1 ∧ fd1 Z h b1 (.int 0) ∧ fd0 Z h b1 (.ref xa1) ∧ av0 Z h xa1 xk1 6 [.int 47, .int (b2.toInt8.toInt32), .int (b3.toInt8.toInt32), .int (b4.toInt8.toInt32), .int 47, .int 42] ∧ ex0 Z h xa1 ∧ Safe Z EL0 vm h xa1 ∧ h0.size ≤ xa1 ∧ h.size > xa1
theorem rm_au242 (G : GL l Z a0 zc fmt kpp) (F0 : ex1 Z h0 pa1) (F1 : fd1 Z h0 pa1 (.int 0)) (F2 : fd0 Z h0 pa1 .null) (F3 : av1 Z h0 pa2 pk1 6 [.int 47, .int pi1, .int pi2, .int pi3, .int 47, .int 42]) (rg_pi1 : ¬ pi1 < 0 ∧ ¬ (255 : Int32) < pi1) (rg_pi2 : ¬ pi2 < 0 ∧ ¬ (255 : Int32) < pi2) (rg_pi3 : ¬ pi3 < 0 ∧ ¬ (255 : Int32) < pi3) (ne : NE pa1 pa2 ∧ n0 ≤ pa1) : M4 l Z 2 1 6 35 #[.ref pa1, .ref pa2, i0, .int 6, .null] h0 n0 [pa1] [pa1] (Q117 Z pa1 pi1 pi2 pi3 h0) := by
  refine mi B4 ef4 (hEW G) fun s X0 hsf0 n0le => ?_
  have := F0.l
  have := F3.l
  have sf_pa1 := hsf0 pa1 (by simp)
  refine oA 1 X0 d4_0 rfl rfl <| o_initO 4 (W := 0) X0 (w12 G) (w13 G) (w14 G) rfl (by decide) (Nat.le_of_eq rfl) (by decide) d4_1 rfl ?_
  intro _ X2
  refine oI 5 X2 d4_4 rfl rfl <| oy 27 X2 d4_5 (by decide) ((if0 _ _).trans (feq (by decide)).2) <| oG 30 X2 (w23 G) Via.refl ((sg5 G).ext X2.old.2) d4_27 rfl ?_
  intro _ X4
  refine on 33 X4 d4_30 rfl ((if0 _ _).trans (feq (hzc G)).1) <| oA 34 X4 d4_33 rfl rfl <| oI 35 X4 d4_34 rfl rfl <| oI 36 X4 d4_35 rfl rfl <| mS 39 0 X4 (rm_au240 G F3 rg_pi1 rg_pi2 rg_pi3) (u3 G) all0 d4_36 rfl rfl rfl lr (by decide) all0 ?_
  rintro _ _ _ _ X5 ⟨xa1_6, xk1_7, rfl, q8, q9, q10, _⟩ K5 _ C5
  refine oU 41 (l' := #[rr pa1, rr pa2, ii 0, ii 6, .val .null, rr xa1_6]) X5 d4_39 rfl rfl rfl <| oA 42 X5 d4_41 rfl rfl <| oa 44 X5 d4_42 rfl rfl <| oI 45 X5 d4_44 rfl rfl <| mS 48 1 X5 (rm_au241 G q8) (u4 G) all0 d4_45 rfl rfl rfl lr (by decide) all0 ?_
  rintro _ _ _ _ X12 rfl K12 _ C12
  have f13 := (F1.k0 K5).k0 K12
  have f14 := (F0.keep K5).keep K12
  have f16 := C12.safe (own_lt (by omega)) (C5.safe (own_lt (by omega)) sf_pa1)
  refine oP 51 (v' := (.int 0)) X12 (w22 G) Via.refl f13 f14 (Or.inr ⟨(w18 G), rfl, rfl⟩) (w2 G) fd_1 rfl rfl d4_48 rfl (by omega) (Or.inl (by simp)) f16 ?_
  intro _ _ X15 W15 C15
  have := W15.size
  have f17 := f13.same W15
  refine oA 52 X15 d4_51 rfl rfl <| oa 54 X15 d4_52 rfl rfl ?_
  have f18 := ((F2.k0 K5).k0 K12).other W15 (Or.inr (sn1 G))
  have f19 := f14.wr W15
  have f21 := C15.safe (own_lt (by omega)) f16
  refine oP 57 (v' := (.ref xa1_6)) X15 (w21 G) Via.refl f18 f19 (Or.inr ⟨(w17 G), rfl, rfl⟩) (w2 G) fd_0 rfl rfl d4_54 rfl (by omega) (Or.inl (by simp)) f21 ?_
  intro _ _ X20 W20 C20
  have := W20.size
  have f22 := f18.same W20
  have f23 := f19.wr W20
  have f24 := f17.other W20 (Or.inr (sn0 G))
  have f25 := ((q8.k0 K12).oth W15 (by omega)).oth W20 (by omega)
  have f26 := ((q9.keep K12).wr W15).wr W20
  have f27 := C20.safe (own_lt (by omega)) (C15.safe (own_lt (by omega)) (C12.safe (own_lt (by omega)) q10))
  exact oz X20 d4_57 rfl (by decide) (by decide) (fun _ CC => ⟨xa1_6, xk1_7, rfl, f23, f24, f22, f25, f26, (CC.safe (own_lt (by omega)) f27), by omega⟩)
theorem rm_au243 (G : GL l Z a0 zc fmt kpp) (F0 : ex1 Z h0 pa1) (F1 : fd1 Z h0 pa1 (.int 0)) (F2 : fd0 Z h0 pa1 .null) (F3 : av1 Z h0 pa2 pk1 6 [.int 47, .int pi1, .int pi2, .int pi3, .int 47, .int 42]) (rg_pi1 : ¬ pi1 < 0 ∧ ¬ (255 : Int32) < pi1) (rg_pi2 : ¬ pi2 < 0 ∧ ¬ (255 : Int32) < pi2) (rg_pi3 : ¬ pi3 < 0 ∧ ¬ (255 : Int32) < pi3) (ne : NE pa1 pa2 ∧ n0 ≤ pa1) : M3 l Z 3 1 6 52 #[.ref pa1, .ref pa2] h0 n0 [pa1] [pa1] (Q117 Z pa1 pi1 pi2 pi3 h0) := by
  refine mi B3 ef3 (hEW G) fun s X0 hsf0 n0le => ?_
  have := F0.l
  have := F3.l
  have sf_pa1 := hsf0 pa1 (by simp)
  refine oA 1 X0 d3_0 rfl rfl <| oA 2 X0 d3_1 rfl rfl <| oc 3 (v := 0) X0 d3_2 rfl (by decide) <| oA 4 X0 d3_3 rfl rfl <| oL 5 X0 F3 d3_4 rfl <| o_aconstNull 6 X0 d3_5 rfl <| mP 9 0 X0 (rm_au242 G F0 F1 F2 F3 rg_pi1 rg_pi2 rg_pi3 (by omega)) (u0 G) (sS (by omega) sf_pa1 all0) d3_6 rfl rfl rfl lr (by decide) (aI (by omega) (by simp) all0) ?_
  rintro _ _ _ _ X1 ⟨xa1_2, xk1_3, rfl, q4, q5, q6, q7, q8, q9, _⟩ _ _ _
  exact oz X1 d3_9 rfl (by decide) (by decide) (fun _ CC => ⟨xa1_2, xk1_3, rfl, q4, q5, q6, q7, q8, (CC.safe (own_lt (by omega)) q9), by omega⟩)
theorem rm_au244 (G : GL l Z a0 zc fmt kpp) (F0 : ex1 Z h0 pa1) (F1 : fd1 Z h0 pa1 (.int 0)) (F2 : fd0 Z h0 pa1 (.ref pa2)) (F3 : av0 Z h0 pa2 pk1 4 ps_pa2) : M13 l Z 1 0 0 13 #[.ref pa1] h0 n0 [] [] (Q21 Z  h0) := by
  refine mi B13 ef7 (hEW G) fun s X0 hsf0 n0le => ?_
  have := F0.l
  have := F3.l
  refine oA 1 X0 d13_0 rfl rfl <| oF 4 X0 (w21 G) Via.refl F2 d13_1 rfl ?_
  intro _ X2
  refine oL 5 X2 F3 d13_4 rfl <| oA 6 X2 d13_5 rfl rfl <| mV 9 1 X2 F0 (rm_au9 G F1) (u7 G) all0 d13_6 rfl rfl rfl lr (by decide) all0 ?_
  rintro _ _ _ _ X3 rfl _ _ _
  refine o_ishr 10 (v := 4) X3 d13_9 rfl (by decide) ?_
  exact o_iret X3 d13_10 rfl (by decide) (by decide) (fun _ CC => rfl)
theorem rm_au245 (G : GL l Z a0 zc fmt kpp) (F0 : ex1 Z h0 pa1) (F1 : fd1 Z h0 pa1 (.int 0)) (F2 : fd0 Z h0 pa1 (.ref pa3)) (F3 : av0 Z h0 pa2 pk1 16 [i0, i0, i0, i0, i0, i0, i0, i0, i0, i0, i0, i0, i0, i0, i0, i0]) (F4 : ex0 Z h0 pa2) (F5 : av0 Z h0 pa3 pk2 4 [.int pi1, .int pi2, .int pi3, .int pi4]) (ne : NE pa1 pa2 ∧ NE pa2 pa3 ∧ n0 ≤ pa2) : M18 l Z 1 0 0 40 #[.ref pa1, .ref pa2, i0, i0] h0 n0 [pa2] [pa2] (Q50 Z pa2 pk1 pi1 pi2 pi3 pi4 h0) := by
  refine mi B18 ef11 (hEW G) fun s X0 hsf0 n0le => ?_
  have := F0.l
  have := F3.l
  have := F5.l
  have sf_pa2 := hsf0 pa2 (by simp)
  refine oA 1 X0 d18_0 rfl rfl <| mV 4 0 X0 F0 (rm_au9 G F1) (u7 G) all0 d18_1 rfl rfl rfl lr (by decide) all0 ?_
  rintro _ _ _ _ X1 rfl K1 _ C1
  refine oI 5 X1 d18_4 rfl rfl <| oN 8 X1 d18_5 rfl (teq (by decide)).2 <| oA 9 X1 d18_8 rfl rfl ?_
  have f2 := F2.k0 K1
  refine oF 12 X1 (w21 G) Via.refl f2 d18_9 rfl ?_
  intro _ X4
  refine oc 13 (v := 0) X4 d18_12 rfl (by decide) <| oA 14 X4 d18_13 rfl rfl <| oI 15 X4 d18_14 rfl rfl <| oI 16 X4 d18_15 rfl rfl <| o_ishl 17 (v := 0) X4 d18_16 rfl (by decide) <| oA 18 X4 d18_17 rfl rfl <| oF 21 X4 (w21 G) Via.refl f2 d18_18 rfl ?_
  intro _ X6
  have f7 := F5.k0 K1
  refine oL 22 X6 f7 d18_21 rfl ?_
  have f8 := F3.k0 K1
  have f9 := C1.safe (own_lt (by omega)) sf_pa2
  refine o_cp 25 (us := [.int pi1, .int pi2, .int pi3, .int pi4]) (vr := [.int pi1, .int pi2, .int pi3, .int pi4, i0, i0, i0, i0, i0, i0, i0, i0, i0, i0, i0, i0]) (W := 0) X6 (w101 G) (w104 G) (w102 G) (w103 G) f7 f8 (Or.inl ⟨rfl, rfl⟩) (by decide) (by decide) (by decide) (by decide) (by decide) rfl (Nat.le_of_ble_eq_true rfl) rfl d18_22 rfl rfl (by decide) (Nat.le_of_eq rfl) (by decide) (by omega) (Or.inl (by simp)) f9 ?_
  intro _ _ X10 K10 _ V10
  have := K10.1
  refine og 43 X10 d18_25 (by decide) ?_
  have f11 := (F4.keep K1).keep K10
  exact oz X10 d18_43 rfl (by decide) (by decide) (fun _ CC => ⟨rfl, V10, f11⟩)
theorem rm_au246 (G : GL l Z a0 zc fmt kpp) (F0 : ex3 Z h0 pa1) (F1 : fd6 Z h0 pa1 (.int 0)) (F2 : fd5 Z h0 pa1 (.ref pa3)) (F3 : ex1 Z h0 pa2) (F4 : fd1 Z h0 pa2 (.int 0)) (F5 : fd0 Z h0 pa2 (.ref pa4)) (F6 : av0 Z h0 pa3 pk1 16 [i0, i0, i0, i0, i0, i0, i0, i0, i0, i0, i0, i0, i0, i0, i0, i0]) (F7 : ex0 Z h0 pa3) (F8 : av0 Z h0 pa4 pk2 4 [.int pi1, .int pi2, .int pi3, .int pi4]) (ne : NE pa1 pa3 ∧ NE pa2 pa3 ∧ NE pa3 pa4 ∧ n0 ≤ pa3) : M16 l Z 2 0 0 55 #[.ref pa1, i0, .ref pa2] h0 n0 [pa3] [pa3] (Q50 Z pa3 pk1 pi1 pi2 pi3 pi4 h0) := by
  refine mi B16 ef10 (hEW G) fun s X0 hsf0 n0le => ?_
  have := F0.l
  have := F3.l
  have := F6.l
  have := F8.l
  have sf_pa3 := hsf0 pa3 (by simp)
  refine oA 1 X0 d16_0 rfl rfl <| oA 2 X0 d16_1 rfl rfl <| mV 5 0 X0 F0 (rm_au12 G F1 F3 F4) (u11 G) all0 d16_2 rfl rfl rfl lr (by decide) all0 ?_
  rintro _ _ _ _ X1 rfl K1 _ C1
  refine oA 6 X1 d16_5 rfl rfl <| oA 7 X1 d16_6 rfl rfl ?_
  have f2 := F2.k0 K1
  refine oF 10 X1 (w54 G) Via.refl f2 d16_7 rfl ?_
  intro _ X4
  refine oI 11 X4 d16_10 rfl rfl <| oA 12 X4 d16_11 rfl rfl ?_
  have f5 := F1.k0 K1
  refine oF 15 X4 (w56 G) Via.refl f5 d16_12 rfl ?_
  intro _ X7
  have f8 := F3.keep K1
  have f9 := F4.k0 K1
  have f10 := F5.k0 K1
  have f11 := F6.k0 K1
  have f12 := F7.keep K1
  have f13 := F8.k0 K1
  have f14 := C1.safe (own_lt (by omega)) sf_pa3
  refine mV 18 0 X7 f8 (rm_au245 G f8 f9 f10 f11 f12 f13 (by omega)) (u12 G) (sS (by omega) f14 all0) d16_15 rfl rfl rfl lr (by decide) (aI (by omega) (by simp) all0) ?_
  rintro _ _ _ _ X15 ⟨rfl, q16, q17⟩ _ _ _
  exact oz X15 d16_18 rfl (by decide) (by decide) (fun _ CC => ⟨rfl, q16, q17⟩)
theorem rm_au247 (G : GL l Z a0 zc fmt kpp) (F0 : ex3 Z h0 pa1) (F1 : fd6 Z h0 pa1 (.int 0)) (F2 : fd7 Z h0 pa1 (.int 0)) (F3 : fd8 Z h0 pa1 (.int 0)) (F4 : fd5 Z h0 pa1 (.ref pa3)) (F5 : ex1 Z h0 pa2) (F6 : fd1 Z h0 pa2 (.int 0)) (F7 : fd0 Z h0 pa2 (.ref pa4)) (F8 : av0 Z h0 pa3 pk1 16 [i0, i0, i0, i0, i0, i0, i0, i0, i0, i0, i0, i0, i0, i0, i0, i0]) (F9 : ex0 Z h0 pa3) (F10 : av0 Z h0 pa4 pk2 4 [.int pi1, .int pi2, .int pi3, .int pi4]) (ne : NE pa1 pa2 ∧ NE pa1 pa3 ∧ NE pa1 pa4 ∧ NE pa2 pa3 ∧ NE pa3 pa4 ∧ n0 ≤ pa1 ∧ n0 ≤ pa3) : M12 l Z 3 0 0 69 #[.ref pa1, .ref pa2] h0 n0 [pa1, pa3] [pa3] (Q51 Z pa1 pa3 pk1 pi1 pi2 pi3 pi4 h0) := by
  refine mi B12 ef8 (hEW G) fun s X0 hsf0 n0le => ?_
  have := F0.l
  have := F5.l
  have := F8.l
  have := F10.l
  have sf_pa3 := hsf0 pa3 (by simp)
  refine oA 1 X0 d12_0 rfl rfl <| ifnonnullYesJ 9 X0 d12_1 (by decide) <| oA 10 X0 d12_9 rfl rfl <| mV 13 0 X0 F5 (rm_au244 G F5 F6 F7 F10) (u8 G) all0 d12_10 rfl rfl rfl lr (by decide) all0 ?_
  rintro _ _ _ _ X1 rfl K1 _ C1
  refine oT 14 (l' := #[rr pa1, rr pa2, ii 4]) X1 d12_13 rfl rfl <| oA 15 X1 d12_14 rfl rfl <| oA 16 X1 d12_15 rfl rfl ?_
  have f2 := F2.k0 K1
  refine oF 19 X1 (w78 G) Via.refl f2 d12_16 rfl ?_
  intro _ X4
  refine oI 20 X4 d12_19 rfl rfl <| o_iadd 21 (v := 4) X4 d12_20 rfl (by decide) ?_
  have f5 := F1.k0 K1
  have f6 := F4.k0 K1
  have f7 := F8.k0 K1
  have f8 := F0.keep K1
  refine mV 24 0 X4 f8 (rm_au11 G f5 f6 f7 (by decide)) (u9 G) all0 d12_21 rfl rfl rfl lr (by decide) all0 ?_
  rintro _ _ _ _ X9 rfl K9 _ C9
  refine oA 25 X9 d12_24 rfl rfl <| oA 26 X9 d12_25 rfl rfl ?_
  have f10 := f2.k0 K9
  refine oF 29 X9 (w78 G) Via.refl f10 d12_26 rfl ?_
  intro _ X12
  refine oA 30 X12 d12_29 rfl rfl ?_
  have f13 := f8.keep K9
  have f14 := f5.k0 K9
  have f15 := f6.k0 K9
  have f16 := (F5.keep K1).keep K9
  have f17 := (F6.k0 K1).k0 K9
  have f18 := (F7.k0 K1).k0 K9
  have f19 := f7.k0 K9
  have f20 := (F9.keep K1).keep K9
  have f21 := (F10.k0 K1).k0 K9
  have f22 := C9.safe (own_lt (by omega)) (C1.safe (own_lt (by omega)) sf_pa3)
  refine mV 33 0 X12 f13 (rm_au246 G f13 f14 f15 f16 f17 f18 f19 f20 f21 (by omega)) (u13 G) (sS (by omega) f22 all0) d12_30 rfl rfl rfl lr (by decide) (aI (by omega) (by simp) all0) ?_
  rintro _ _ _ _ X23 ⟨rfl, q24, q25⟩ K23 _ _
  refine oA 34 X23 d12_33 rfl rfl <| oD 35 X23 d12_34 rfl rfl ?_
  have f26 := f10.k1 K23 (by omega)
  refine oF 38 X23 (w78 G) Via.refl f26 d12_35 rfl ?_
  intro _ X28
  refine oI 39 X28 d12_38 rfl rfl <| o_iadd 40 (v := 4) X28 d12_39 rfl (by decide) ?_
  have f29 := f13.keep K23
  refine oP 43 (v' := (.int 4)) X28 (w78 G) Via.refl f26 f29 (Or.inl (w79 G)) (w41 G) fd_4 rfl rfl d12_40 rfl (by omega) (Or.inl (by simp)) (sx X28 f29 nc1) ?_
  intro _ _ X30 W30 _
  have := W30.size
  have f31 := f26.same W30
  refine oA 44 X30 d12_43 rfl rfl ?_
  have f32 := f29.wr W30
  have f33 := (f14.k1 K23 (by omega)).other W30 (Or.inr (sn8 G))
  have f34 := (((F3.k0 K1).k0 K9).k1 K23 (by omega)).other W30 (Or.inr (sn9 G))
  have f35 := (f15.k1 K23 (by omega)).other W30 (Or.inr (sn10 G))
  have f36 := q24.oth W30 (by omega)
  have f37 := q25.wr W30
  exact oR X30 d12_44 rfl rfl rfl (by decide) (by decide) (fun _ CC => ⟨rfl, f32, f33, f31, f34, f35, f36, f37⟩)
theorem rm_au248 (G : GL l Z a0 zc fmt kpp) (F0 : ex3 Z h0 pa1) (F1 : fd6 Z h0 pa1 (.int 0)) (F2 : fd7 Z h0 pa1 (.int 0)) (F3 : fd8 Z h0 pa1 (.int 0)) (F4 : fd5 Z h0 pa1 (.ref pa3)) (F5 : ex1 Z h0 pa2) (F6 : fd1 Z h0 pa2 (.int 0)) (F7 : fd0 Z h0 pa2 (.ref pa4)) (F8 : av0 Z h0 pa3 pk1 16 [i0, i0, i0, i0, i0, i0, i0, i0, i0, i0, i0, i0, i0, i0, i0, i0]) (F9 : ex0 Z h0 pa3) (F10 : av0 Z h0 pa4 pk2 4 [.int pi1, .int pi2, .int pi3, .int pi4]) (ne : NE pa1 pa2 ∧ NE pa1 pa3 ∧ NE pa1 pa4 ∧ NE pa2 pa3 ∧ NE pa3 pa4 ∧ n0 ≤ pa1 ∧ n0 ≤ pa3) : M11 l Z 4 0 0 83 #[.ref pa1, .ref pa2] h0 n0 [pa1, pa3] [pa3] (Q51 Z pa1 pa3 pk1 pi1 pi2 pi3 pi4 h0) := by
  refine mi B11 ef3 (hEW G) fun s X0 hsf0 n0le => ?_
  have := F0.l
  have := F5.l
  have := F8.l
  have := F10.l
  have sf_pa3 := hsf0 pa3 (by simp)
  refine oA 1 X0 d11_0 rfl rfl <| oA 2 X0 d11_1 rfl rfl <| mU 5 0 X0 F0 (rm_au247 G F0 F1 F2 F3 F4 F5 F6 F7 F8 F9 F10 (by omega)) (u14 G) (sS (by omega) sf_pa3 all0) d11_2 rfl rfl rfl lr (by decide) (aI (by omega) (by simp) (aI (by omega) (by simp) all0)) ?_
  rintro _ _ _ _ X1 ⟨rfl, q2, q3, q4, q5, q6, q7, q8⟩ _ _ _
  refine o_pop 6 X1 d11_5 rfl rfl <| oA 7 X1 d11_6 rfl rfl ?_
  exact oR X1 d11_7 rfl rfl rfl (by decide) (by decide) (fun _ CC => ⟨rfl, q2, q3, q4, q5, q6, q7, q8⟩)
def Q118 (Z : State) (b1 : Addr) (b2 : ClassId) (b3 b4 b5 b6 b7 b8 : Int32) (h0 : Heap) (v : Option Value) (h : Heap) (vm : Vm) : Prop := v = none ∧ av0 Z h b1 b2 16 [.int b3, .int b4, .int b5, .int b6, .int b7, .int b8, i0, i0, i0, i0, i0, i0, i0, i0, i0, i0] ∧ ex0 Z h b1
theorem rm_au249 (G : GL l Z a0 zc fmt kpp) (F0 : ex1 Z h0 pa1) (F1 : fd1 Z h0 pa1 (.int 0)) (F2 : fd0 Z h0 pa1 (.ref pa3)) (F3 : av0 Z h0 pa2 pk1 16 [.int pi1, .int pi2, .int pi3, .int pi4, i0, i0, i0, i0, i0, i0, i0, i0, i0, i0, i0, i0]) (F4 : ex0 Z h0 pa2) (F5 : av0 Z h0 pa3 pk2 2 [.int pi5, .int pi6]) (ne : NE pa1 pa2 ∧ NE pa2 pa3 ∧ n0 ≤ pa2) : M18 l Z 1 0 0 40 #[.ref pa1, .ref pa2, .int 4, i0] h0 n0 [pa2] [pa2] (Q118 Z pa2 pk1 pi1 pi2 pi3 pi4 pi5 pi6 h0) := by
  refine mi B18 ef11 (hEW G) fun s X0 hsf0 n0le => ?_
  have := F0.l
  have := F3.l
  have := F5.l
  have sf_pa2 := hsf0 pa2 (by simp)
  refine oA 1 X0 d18_0 rfl rfl <| mV 4 0 X0 F0 (rm_au9 G F1) (u7 G) all0 d18_1 rfl rfl rfl lr (by decide) all0 ?_
  rintro _ _ _ _ X1 rfl K1 _ C1
  refine oI 5 X1 d18_4 rfl rfl <| oN 8 X1 d18_5 rfl (teq (by decide)).2 <| oA 9 X1 d18_8 rfl rfl ?_
  have f2 := F2.k0 K1
  refine oF 12 X1 (w21 G) Via.refl f2 d18_9 rfl ?_
  intro _ X4
  refine oc 13 (v := 0) X4 d18_12 rfl (by decide) <| oA 14 X4 d18_13 rfl rfl <| oI 15 X4 d18_14 rfl rfl <| oI 16 X4 d18_15 rfl rfl <| o_ishl 17 (v := 4) X4 d18_16 rfl (by decide) <| oA 18 X4 d18_17 rfl rfl <| oF 21 X4 (w21 G) Via.refl f2 d18_18 rfl ?_
  intro _ X6
  have f7 := F5.k0 K1
  refine oL 22 X6 f7 d18_21 rfl ?_
  have f8 := F3.k0 K1
  have f9 := C1.safe (own_lt (by omega)) sf_pa2
  refine o_cp 25 (us := [.int pi5, .int pi6]) (vr := [.int pi1, .int pi2, .int pi3, .int pi4, .int pi5, .int pi6, i0, i0, i0, i0, i0, i0, i0, i0, i0, i0]) (W := 0) X6 (w101 G) (w104 G) (w102 G) (w103 G) f7 f8 (Or.inl ⟨rfl, rfl⟩) (by decide) (by decide) (by decide) (by decide) (by decide) rfl (Nat.le_of_ble_eq_true rfl) rfl d18_22 rfl rfl (by decide) (Nat.le_of_eq rfl) (by decide) (by omega) (Or.inl (by simp)) f9 ?_
  intro _ _ X10 K10 _ V10
  have := K10.1
  refine og 43 X10 d18_25 (by decide) ?_
  have f11 := (F4.keep K1).keep K10
  exact oz X10 d18_43 rfl (by decide) (by decide) (fun _ CC => ⟨rfl, V10, f11⟩)
theorem rm_au250 (G : GL l Z a0 zc fmt kpp) (F0 : ex3 Z h0 pa1) (F1 : fd6 Z h0 pa1 (.int 0)) (F2 : fd5 Z h0 pa1 (.ref pa3)) (F3 : ex1 Z h0 pa2) (F4 : fd1 Z h0 pa2 (.int 0)) (F5 : fd0 Z h0 pa2 (.ref pa4)) (F6 : av0 Z h0 pa3 pk1 16 [.int pi1, .int pi2, .int pi3, .int pi4, i0, i0, i0, i0, i0, i0, i0, i0, i0, i0, i0, i0]) (F7 : ex0 Z h0 pa3) (F8 : av0 Z h0 pa4 pk2 2 [.int pi5, .int pi6]) (ne : NE pa1 pa3 ∧ NE pa2 pa3 ∧ NE pa3 pa4 ∧ n0 ≤ pa3) : M16 l Z 2 0 0 55 #[.ref pa1, .int 4, .ref pa2] h0 n0 [pa3] [pa3] (Q118 Z pa3 pk1 pi1 pi2 pi3 pi4 pi5 pi6 h0) := by
  refine mi B16 ef10 (hEW G) fun s X0 hsf0 n0le => ?_
  have := F0.l
  have := F3.l
  have := F6.l
  have := F8.l
  have sf_pa3 := hsf0 pa3 (by simp)
  refine oA 1 X0 d16_0 rfl rfl <| oA 2 X0 d16_1 rfl rfl <| mV 5 0 X0 F0 (rm_au12 G F1 F3 F4) (u11 G) all0 d16_2 rfl rfl rfl lr (by decide) all0 ?_
  rintro _ _ _ _ X1 rfl K1 _ C1
  refine oA 6 X1 d16_5 rfl rfl <| oA 7 X1 d16_6 rfl rfl ?_
  have f2 := F2.k0 K1
  refine oF 10 X1 (w54 G) Via.refl f2 d16_7 rfl ?_
  intro _ X4
  refine oI 11 X4 d16_10 rfl rfl <| oA 12 X4 d16_11 rfl rfl ?_
  have f5 := F1.k0 K1
  refine oF 15 X4 (w56 G) Via.refl f5 d16_12 rfl ?_
  intro _ X7
  have f8 := F3.keep K1
  have f9 := F4.k0 K1
  have f10 := F5.k0 K1
  have f11 := F6.k0 K1
  have f12 := F7.keep K1
  have f13 := F8.k0 K1
  have f14 := C1.safe (own_lt (by omega)) sf_pa3
  refine mV 18 0 X7 f8 (rm_au249 G f8 f9 f10 f11 f12 f13 (by omega)) (u12 G) (sS (by omega) f14 all0) d16_15 rfl rfl rfl lr (by decide) (aI (by omega) (by simp) all0) ?_
  rintro _ _ _ _ X15 ⟨rfl, q16, q17⟩ _ _ _
  exact oz X15 d16_18 rfl (by decide) (by decide) (fun _ CC => ⟨rfl, q16, q17⟩)
def Q119 (Z : State) (b1 b2 : Addr) (b3 : ClassId) (b4 b5 b6 b7 b8 b9 : Int32) (h0 : Heap) (v : Option Value) (h : Heap) (vm : Vm) : Prop := v = some (.ref b1) ∧ ex3 Z h b1 ∧ fd6 Z h b1 (.int 0) ∧ fd7 Z h b1 (.int 6) ∧ fd8 Z h b1 (.int 0) ∧ fd5 Z h b1 (.ref b2) ∧ av0 Z h b2 b3 16 [.int b4, .int b5, .int b6, .int b7, .int b8, .int b9, i0, i0, i0, i0, i0, i0, i0, i0, i0, i0] ∧ ex0 Z h b2
theorem rm_au251 (G : GL l Z a0 zc fmt kpp) (F0 : ex3 Z h0 pa1) (F1 : fd6 Z h0 pa1 (.int 0)) (F2 : fd7 Z h0 pa1 (.int 4)) (F3 : fd8 Z h0 pa1 (.int 0)) (F4 : fd5 Z h0 pa1 (.ref pa3)) (F5 : ex1 Z h0 pa2) (F6 : fd1 Z h0 pa2 (.int 0)) (F7 : fd0 Z h0 pa2 (.ref pa4)) (F8 : av0 Z h0 pa3 pk1 16 [.int pi1, .int pi2, .int pi3, .int pi4, i0, i0, i0, i0, i0, i0, i0, i0, i0, i0, i0, i0]) (F9 : ex0 Z h0 pa3) (F10 : av0 Z h0 pa4 pk2 2 [.int pi5, .int pi6]) (ne : NE pa1 pa2 ∧ NE pa1 pa3 ∧ NE pa1 pa4 ∧ NE pa2 pa3 ∧ NE pa3 pa4 ∧ n0 ≤ pa1 ∧ n0 ≤ pa3) : M12 l Z 3 0 0 69 #[.ref pa1, .ref pa2] h0 n0 [pa1, pa3] [pa3] (Q119 Z pa1 pa3 pk1 pi1 pi2 pi3 pi4 pi5 pi6 h0) := by
  refine mi B12 ef8 (hEW G) fun s X0 hsf0 n0le => ?_
  have := F0.l
  have := F5.l
  have := F8.l
  have := F10.l
  have sf_pa3 := hsf0 pa3 (by simp)
  refine oA 1 X0 d12_0 rfl rfl <| ifnonnullYesJ 9 X0 d12_1 (by decide) <| oA 10 X0 d12_9 rfl rfl <| mV 13 0 X0 F5 (rm_au17 G F5 F6 F7 F10) (u8 G) all0 d12_10 rfl rfl rfl lr (by decide) all0 ?_
  rintro _ _ _ _ X1 rfl K1 _ C1
  refine oT 14 (l' := #[rr pa1, rr pa2, ii 2]) X1 d12_13 rfl rfl <| oA 15 X1 d12_14 rfl rfl <| oA 16 X1 d12_15 rfl rfl ?_
  have f2 := F2.k0 K1
  refine oF 19 X1 (w78 G) Via.refl f2 d12_16 rfl ?_
  intro _ X4
  refine oI 20 X4 d12_19 rfl rfl <| o_iadd 21 (v := 6) X4 d12_20 rfl (by decide) ?_
  have f5 := F1.k0 K1
  have f6 := F4.k0 K1
  have f7 := F8.k0 K1
  have f8 := F0.keep K1
  refine mV 24 0 X4 f8 (rm_au11 G f5 f6 f7 (by decide)) (u9 G) all0 d12_21 rfl rfl rfl lr (by decide) all0 ?_
  rintro _ _ _ _ X9 rfl K9 _ C9
  refine oA 25 X9 d12_24 rfl rfl <| oA 26 X9 d12_25 rfl rfl ?_
  have f10 := f2.k0 K9
  refine oF 29 X9 (w78 G) Via.refl f10 d12_26 rfl ?_
  intro _ X12
  refine oA 30 X12 d12_29 rfl rfl ?_
  have f13 := f8.keep K9
  have f14 := f5.k0 K9
  have f15 := f6.k0 K9
  have f16 := (F5.keep K1).keep K9
  have f17 := (F6.k0 K1).k0 K9
  have f18 := (F7.k0 K1).k0 K9
  have f19 := f7.k0 K9
  have f20 := (F9.keep K1).keep K9
  have f21 := (F10.k0 K1).k0 K9
  have f22 := C9.safe (own_lt (by omega)) (C1.safe (own_lt (by omega)) sf_pa3)
  refine mV 33 0 X12 f13 (rm_au250 G f13 f14 f15 f16 f17 f18 f19 f20 f21 (by omega)) (u13 G) (sS (by omega) f22 all0) d12_30 rfl rfl rfl lr (by decide) (aI (by omega) (by simp) all0) ?_
  rintro _ _ _ _ X23 ⟨rfl, q24, q25⟩ K23 _ _
  refine oA 34 X23 d12_33 rfl rfl <| oD 35 X23 d12_34 rfl rfl ?_
  have f26 := f10.k1 K23 (by omega)
  refine oF 38 X23 (w78 G) Via.refl f26 d12_35 rfl ?_
  intro _ X28
  refine oI 39 X28 d12_38 rfl rfl <| o_iadd 40 (v := 6) X28 d12_39 rfl (by decide) ?_
  have f29 := f13.keep K23
  refine oP 43 (v' := (.int 6)) X28 (w78 G) Via.refl f26 f29 (Or.inl (w79 G)) (w41 G) fd_4 rfl rfl d12_40 rfl (by omega) (Or.inl (by simp)) (sx X28 f29 nc1) ?_
  intro _ _ X30 W30 _
  have := W30.size
  have f31 := f26.same W30
  refine oA 44 X30 d12_43 rfl rfl ?_
  have f32 := f29.wr W30
  have f33 := (f14.k1 K23 (by omega)).other W30 (Or.inr (sn8 G))
  have f34 := (((F3.k0 K1).k0 K9).k1 K23 (by omega)).other W30 (Or.inr (sn9 G))
  have f35 := (f15.k1 K23 (by omega)).other W30 (Or.inr (sn10 G))
  have f36 := q24.oth W30 (by omega)
  have f37 := q25.wr W30
  exact oR X30 d12_44 rfl rfl rfl (by decide) (by decide) (fun _ CC => ⟨rfl, f32, f33, f31, f34, f35, f36, f37⟩)
theorem rm_au252 (G : GL l Z a0 zc fmt kpp) (F0 : ex3 Z h0 pa1) (F1 : fd6 Z h0 pa1 (.int 0)) (F2 : fd7 Z h0 pa1 (.int 4)) (F3 : fd8 Z h0 pa1 (.int 0)) (F4 : fd5 Z h0 pa1 (.ref pa3)) (F5 : ex1 Z h0 pa2) (F6 : fd1 Z h0 pa2 (.int 0)) (F7 : fd0 Z h0 pa2 (.ref pa4)) (F8 : av0 Z h0 pa3 pk1 16 [.int pi1, .int pi2, .int pi3, .int pi4, i0, i0, i0, i0, i0, i0, i0, i0, i0, i0, i0, i0]) (F9 : ex0 Z h0 pa3) (F10 : av0 Z h0 pa4 pk2 2 [.int pi101, .int pi102]) (ne : NE pa1 pa2 ∧ NE pa1 pa3 ∧ NE pa1 pa4 ∧ NE pa2 pa3 ∧ NE pa3 pa4 ∧ n0 ≤ pa1 ∧ n0 ≤ pa3) : M11 l Z 4 0 0 83 #[.ref pa1, .ref pa2] h0 n0 [pa1, pa3] [pa3] (Q119 Z pa1 pa3 pk1 pi1 pi2 pi3 pi4 pi101 pi102 h0) := by
  refine mi B11 ef3 (hEW G) fun s X0 hsf0 n0le => ?_
  have := F0.l
  have := F5.l
  have := F8.l
  have := F10.l
  have sf_pa3 := hsf0 pa3 (by simp)
  refine oA 1 X0 d11_0 rfl rfl <| oA 2 X0 d11_1 rfl rfl <| mU 5 0 X0 F0 (rm_au251 G F0 F1 F2 F3 F4 F5 F6 F7 F8 F9 F10 (by omega)) (u14 G) (sS (by omega) sf_pa3 all0) d11_2 rfl rfl rfl lr (by decide) (aI (by omega) (by simp) (aI (by omega) (by simp) all0)) ?_
  rintro _ _ _ _ X1 ⟨rfl, q2, q3, q4, q5, q6, q7, q8⟩ _ _ _
  refine o_pop 6 X1 d11_5 rfl rfl <| oA 7 X1 d11_6 rfl rfl ?_
  exact oR X1 d11_7 rfl rfl rfl (by decide) (by decide) (fun _ CC => ⟨rfl, q2, q3, q4, q5, q6, q7, q8⟩)
def Q120 (Z : State) (b1 b2 b3 b4 : Int32) (h0 : Heap) (v : Option Value) (h : Heap) (vm : Vm) : Prop := ∃ (xa1 : Addr) (xk1 : ClassId), v = some (.ref xa1) ∧ av0 Z h xa1 xk1 6 [.int b1, .int b2, .int b3, .int b4, .int 47, .int 42] ∧ ex0 Z h xa1 ∧ Safe Z EL0 vm h xa1 ∧ h0.size ≤ xa1 ∧ h.size > xa1
theorem rm_au253 (G : GL l Z a0 zc fmt kpp) (F0 : av0 Z h0 pa1 pk1 16 [.int pi1, .int pi2, .int pi3, .int pi4, .int 47, .int 42, i0, i0, i0, i0, i0, i0, i0, i0, i0, i0]) : M27 l Z 1 1 6 40 #[.ref pa1, i0, .int 6] h0 n0 [] [] (Q120 Z pi1 pi2 pi3 pi4 h0) := by
  refine mi B27 ef13 (hEW G) fun s X0 hsf0 n0le => ?_
  have := F0.l
  refine oI 1 X0 d27_0 rfl rfl <| oI 2 X0 d27_1 rfl rfl <| mS 5 0 X0 (rm_au26 G (by decide)) (u20 G) all0 d27_2 rfl rfl rfl lr (by decide) all0 ?_
  rintro _ _ _ _ X1 rfl K1 _ _
  refine oI 6 X1 d27_5 rfl rfl <| oI 7 X1 d27_6 rfl rfl <| o_isub 8 (v := 6) X1 d27_7 rfl (by decide) <| oT 9 (l' := #[rr pa1, ii 0, ii 6, ii 6, uu]) X1 d27_8 rfl rfl <| oI 10 X1 d27_9 rfl rfl <| nP (aty := .byte) 12 6 X1 (w16 G) d27_10 rfl (by decide) had_byte ?_
  intro _ h2 b2 k2 X2 _ _ E2 V2 A2 _ S2
  have V3 : av0 Z h2 b2 k2 6 [i0, i0, i0, i0, i0, i0] := V2.pad (pad_rep [] (.int (0 : Int32)) 6)
  refine oU 14 (l' := #[rr pa1, ii 0, ii 6, ii 6, rr b2]) X2 d27_12 rfl rfl rfl <| oA 15 X2 d27_14 rfl rfl <| oI 16 X2 d27_15 rfl rfl <| oa 18 X2 d27_16 rfl rfl <| oc 19 (v := 0) X2 d27_18 rfl (by decide) <| oA 20 X2 d27_19 rfl rfl ?_
  have f4 := (F0.k0 K1).ext E2
  refine oL 21 X2 f4 d27_20 rfl <| oI 22 X2 d27_21 rfl rfl <| o_isub 23 (v := 16) X2 d27_22 rfl (by decide) <| oI 24 X2 d27_23 rfl rfl <| mS 27 4 X2 (rm_au27 G (by decide)) (u21 G) all0 d27_24 rfl rfl rfl lr (by decide) all0 ?_
  rintro _ _ _ _ X5 rfl K5 _ C5
  have f6 := f4.k0 K5
  have f7 := V3.k0 K5
  have f8 := C5.safe (own_lt (by omega)) S2
  refine o_cp 30 (us := [.int pi1, .int pi2, .int pi3, .int pi4, .int 47, .int 42]) (vr := [.int pi1, .int pi2, .int pi3, .int pi4, .int 47, .int 42]) (W := 0) X5 (w150 G) (w104 G) (w102 G) (w103 G) f6 f7 (Or.inl ⟨rfl, rfl⟩) (by decide) (by decide) (by decide) (by decide) (by decide) rfl (Nat.le_of_ble_eq_true rfl) rfl d27_27 rfl rfl (by decide) (Nat.le_of_eq rfl) (by decide) (by omega) (Or.inr (by omega)) f8 ?_
  intro _ _ X9 K9 C9 V9
  have := K9.1
  refine oa 32 X9 d27_30 rfl rfl ?_
  have f10 := (A2.keep K5).keep K9
  have f11 := C9.safe (own_lt (by omega)) f8
  exact oR X9 d27_32 rfl rfl rfl (by decide) (by decide) (fun _ CC => ⟨b2, k2, rfl, V9, f10, (CC.safe (own_lt (by omega)) f11), by omega⟩)
theorem rm_au254 (G : GL l Z a0 zc fmt kpp) (F0 : av0 Z h0 pa1 pk1 16 [.int pi1, .int pi2, .int pi3, .int pi4, .int 47, .int 42, i0, i0, i0, i0, i0, i0, i0, i0, i0, i0]) : M26 l Z 2 1 6 56 #[.ref pa1, i0, .int 6] h0 n0 [] [] (Q120 Z pi1 pi2 pi3 pi4 h0) := by
  refine mi B26 ef0 (hEW G) fun s X0 hsf0 n0le => ?_
  have := F0.l
  refine oI 1 X0 d26_0 rfl rfl <| on 4 X0 d26_1 rfl ((if0 _ _).trans (teq (by decide)).2) <| oI 5 X0 d26_4 rfl rfl <| oA 6 X0 d26_5 rfl rfl <| oL 7 X0 F0 d26_6 rfl <| oN 10 X0 d26_7 rfl (feq (by decide)).1 <| oA 11 X0 d26_10 rfl rfl <| oI 12 X0 d26_11 rfl rfl <| oI 13 X0 d26_12 rfl rfl <| mS 16 0 X0 (rm_au253 G F0) (u22 G) all0 d26_13 rfl rfl rfl lr (by decide) all0 ?_
  rintro _ _ _ _ X1 ⟨xa1_2, xk1_3, rfl, q4, q5, q6, _⟩ _ _ _
  exact oR X1 d26_16 rfl rfl rfl (by decide) (by decide) (fun _ CC => ⟨xa1_2, xk1_3, rfl, q4, q5, (CC.safe (own_lt (by omega)) q6), by omega⟩)
def Q121 (Z : State) (b1 : Addr) (b2 b3 b4 b5 : Int32) (h0 : Heap) (v : Option Value) (h : Heap) (vm : Vm) : Prop := ∃ (xa1 : Addr) (xk1 : ClassId), v = none ∧ ex1 Z h b1 ∧ fd1 Z h b1 (.int 0) ∧ fd0 Z h b1 (.ref xa1) ∧ av0 Z h xa1 xk1 6 [.int b2, .int b3, .int b4, .int b5, .int 47, .int 42] ∧ ex0 Z h xa1 ∧ Safe Z EL0 vm h xa1 ∧ h0.size ≤ xa1 ∧ h.size > xa1
theorem rm_au255 (G : GL l Z a0 zc fmt kpp) (F0 : ex1 Z h0 pa1) (F1 : fd1 Z h0 pa1 (.int 0)) (F2 : fd0 Z h0 pa1 .null) (F3 : ex3 Z h0 pa2) (F4 : fd6 Z h0 pa2 (.int 0)) (F5 : fd7 Z h0 pa2 (.int 6)) (F6 : fd5 Z h0 pa2 (.ref pa3)) (F7 : av0 Z h0 pa3 pk1 16 [.int pi1, .int pi2, .int pi3, .int pi4, .int 47, .int 42, i0, i0, i0, i0, i0, i0, i0, i0, i0, i0]) (ne : NE pa1 pa2 ∧ NE pa1 pa3 ∧ n0 ≤ pa1) : M21 l Z 3 1 6 71 #[.ref pa1, .ref pa2, .null] h0 n0 [pa1] [pa1] (Q121 Z pa1 pi1 pi2 pi3 pi4 h0) := by
  refine mi B21 ef12 (hEW G) fun s X0 hsf0 n0le => ?_
  have := F0.l
  have := F3.l
  have := F7.l
  have sf_pa1 := hsf0 pa1 (by simp)
  refine oA 1 X0 d21_0 rfl rfl <| o_initO 4 (W := 0) X0 (w12 G) (w13 G) (w14 G) rfl (by decide) (Nat.le_of_eq rfl) (by decide) d21_1 rfl ?_
  intro _ X2
  refine oA 5 X2 d21_4 rfl rfl <| mV 8 0 X2 F3 (rm_au22 G F6) (u16 G) all0 d21_5 rfl rfl rfl lr (by decide) all0 ?_
  rintro _ _ _ _ X3 rfl K3 _ C3
  refine oV 9 (l' := #[rr pa1, rr pa2, .val .null, rr pa3, uu]) X3 d21_8 rfl rfl rfl <| oA 10 X3 d21_9 rfl rfl ?_
  have f4 := F3.keep K3
  have f5 := F5.k0 K3
  refine mV 13 0 X3 f4 (rm_au24 G f4 f5) (u18 G) all0 d21_10 rfl rfl rfl lr (by decide) all0 ?_
  rintro _ _ _ _ X6 rfl K6 _ C6
  refine oS 15 (l' := #[rr pa1, rr pa2, .val .null, rr pa3, ii 6]) X6 d21_13 rfl rfl <| oA 16 X6 d21_15 rfl rfl ?_
  have f7 := (F4.k0 K3).k0 K6
  have f8 := f4.keep K6
  refine mV 19 0 X6 f8 (rm_au25 G f7 (by decide)) (u19 G) all0 d21_16 rfl rfl rfl lr (by decide) all0 ?_
  rintro _ _ _ _ X9 rfl K9 _ C9
  refine on 22 X9 d21_19 rfl ((if0 _ _).trans (feq (by decide)).1) <| oA 23 X9 d21_22 rfl rfl <| oc 24 (v := 0) X9 d21_23 rfl (by decide) ?_
  have f10 := ((F1.k0 K3).k0 K6).k0 K9
  have f11 := ((F0.keep K3).keep K6).keep K9
  have f13 := C9.safe (own_lt (by omega)) (C6.safe (own_lt (by omega)) (C3.safe (own_lt (by omega)) sf_pa1))
  refine oP 27 (v' := (.int 0)) X9 (w22 G) Via.refl f10 f11 (Or.inr ⟨(w18 G), rfl, rfl⟩) (w2 G) fd_1 rfl rfl d21_24 rfl (by omega) (Or.inl (by simp)) f13 ?_
  intro _ _ X12 W12 C12
  have := W12.size
  have f14 := f10.same W12
  refine oA 28 X12 d21_27 rfl rfl <| oA 29 X12 d21_28 rfl rfl <| oc 30 (v := 0) X12 d21_29 rfl (by decide) <| oi 32 X12 d21_30 rfl rfl ?_
  have f15 := (((F7.k0 K3).k0 K6).k0 K9).oth W12 (by omega)
  refine mS 35 1 X12 (rm_au254 G f15) (u23 G) all0 d21_32 rfl rfl rfl lr (by decide) all0 ?_
  rintro _ _ _ _ X16 ⟨xa1_17, xk1_18, rfl, q19, q20, q21, _⟩ K16 _ C16
  have f23 := ((((F2.k0 K3).k0 K6).k0 K9).other W12 (Or.inr (sn1 G))).k0 K16
  have f24 := (f11.wr W12).keep K16
  have f26 := C16.safe (own_lt (by omega)) (C12.safe (own_lt (by omega)) f13)
  refine oP 38 (v' := (.ref xa1_17)) X16 (w21 G) Via.refl f23 f24 (Or.inr ⟨(w17 G), rfl, rfl⟩) (w2 G) fd_0 rfl rfl d21_35 rfl (by omega) (Or.inl (by simp)) f26 ?_
  intro _ _ X25 W25 C25
  have := W25.size
  have f27 := f23.same W25
  refine og 97 X25 d21_38 (by decide) ?_
  have f28 := f24.wr W25
  have f29 := (f14.k0 K16).other W25 (Or.inr (sn0 G))
  have f30 := q19.oth W25 (by omega)
  have f31 := q20.wr W25
  have f32 := C25.safe (own_lt (by omega)) q21
  exact oz X25 d21_97 rfl (by decide) (by decide) (fun _ CC => ⟨xa1_17, xk1_18, rfl, f28, f29, f27, f30, f31, (CC.safe (own_lt (by omega)) f32), by omega⟩)
theorem rm_au256 (G : GL l Z a0 zc fmt kpp) (F0 : ex1 Z h0 pa1) (F1 : fd1 Z h0 pa1 (.int 0)) (F2 : fd0 Z h0 pa1 .null) (F3 : ex3 Z h0 pa2) (F4 : fd6 Z h0 pa2 (.int 0)) (F5 : fd7 Z h0 pa2 (.int 6)) (F6 : fd5 Z h0 pa2 (.ref pa3)) (F7 : av0 Z h0 pa3 pk1 16 [.int pi1, .int pi2, .int pi3, .int pi4, .int 47, .int 42, i0, i0, i0, i0, i0, i0, i0, i0, i0, i0]) (ne : NE pa1 pa2 ∧ NE pa1 pa3 ∧ n0 ≤ pa1) : M20 l Z 4 1 6 87 #[.ref pa1, .ref pa2] h0 n0 [pa1] [pa1] (Q121 Z pa1 pi1 pi2 pi3 pi4 h0) := by
  refine mi B20 ef3 (hEW G) fun s X0 hsf0 n0le => ?_
  have := F0.l
  have := F3.l
  have := F7.l
  have sf_pa1 := hsf0 pa1 (by simp)
  refine oA 1 X0 d20_0 rfl rfl <| oA 2 X0 d20_1 rfl rfl <| o_aconstNull 3 X0 d20_2 rfl <| mP 6 0 X0 (rm_au255 G F0 F1 F2 F3 F4 F5 F6 F7 (by omega)) (u24 G) (sS (by omega) sf_pa1 all0) d20_3 rfl rfl rfl lr (by decide) (aI (by omega) (by simp) all0) ?_
  rintro _ _ _ _ X1 ⟨xa1_2, xk1_3, rfl, q4, q5, q6, q7, q8, q9, _⟩ _ _ _
  exact oz X1 d20_6 rfl (by decide) (by decide) (fun _ CC => ⟨xa1_2, xk1_3, rfl, q4, q5, q6, q7, q8, (CC.safe (own_lt (by omega)) q9), by omega⟩)
def Q122 (Z : State) (b1 b2 b3 b4 : Int32) (h0 : Heap) (v : Option Value) (h : Heap) (vm : Vm) : Prop := ∃ (xa1 : Addr) (xa2 : Addr) (xk1 : ClassId), v = some (.ref xa1) ∧ ex1 Z h xa1 ∧ fd1 Z h xa1 (.int 0) ∧ fd0 Z h xa1 (.ref xa2) ∧ Safe Z EL0 vm h xa1 ∧ av0 Z h xa2 xk1 6 [.int b1, .int b2, .int b3, .int b4, .int 47, .int 42] ∧ ex0 Z h xa2 ∧ Safe Z EL0 vm h xa2 ∧ h0.size ≤ xa1 ∧ h.size > xa1 ∧ h0.size ≤ xa2 ∧ h.size > xa2 ∧ NE xa1 xa2
theorem rm_au257 (G : GL l Z a0 zc fmt kpp) (F0 : ex3 Z h0 pa1) (F1 : fd6 Z h0 pa1 (.int 0)) (F2 : fd7 Z h0 pa1 (.int 6)) (F3 : fd5 Z h0 pa1 (.ref pa2)) (F4 : av0 Z h0 pa2 pk1 16 [.int pi1, .int pi2, .int pi3, .int pi4, .int 47, .int 42, i0, i0, i0, i0, i0, i0, i0, i0, i0, i0]) : M19 l Z 5 2 10 101 #[.ref pa1] h0 n0 [] [] (Q122 Z pi1 pi2 pi3 pi4 h0) := by
  refine mi B19 ef7 (hEW G) fun s X0 hsf0 n0le => ?_
  have l1 := F0.l
  have := F4.l
  refine o_new 3 X0 (w111 G) (w2 G) (w3 G) d19_0 rfl (by decide) (by decide) ?_
  intro _ h1 b1 X1 _ l1 E1 A1 D1 _ _ S1
  have f2 : fd0 Z h1 b1 .null := D1 (Or.inr (w17 G)) fd_0
  have f3 : fd1 Z h1 b1 (.int 0) := D1 (Or.inr (w18 G)) fd_1
  refine oD 4 X1 d19_3 rfl rfl <| oA 5 X1 d19_4 rfl rfl ?_
  have f4 := F0.ext E1
  have f5 := F1.ext E1
  have f6 := F2.ext E1
  have f7 := F3.ext E1
  have f8 := F4.ext E1
  refine mP 8 1 X1 (rm_au256 G A1 f3 f2 f4 f5 f6 f7 f8 (by omega)) (u25 G) (sS (by omega) S1 all0) d19_5 rfl rfl rfl lr (by decide) (aR (by omega) all0) ?_
  rintro _ _ _ _ X9 ⟨xa1_10, xk1_11, rfl, q12, q13, q14, q15, q16, q17, _⟩ _ _ C9
  have f19 := C9.safe (own_lt (by omega)) S1
  exact oR X9 d19_8 rfl rfl rfl (by decide) (by decide) (fun _ CC => ⟨b1, xa1_10, xk1_11, rfl, q12, q13, q14, (CC.safe (own_lt (by omega)) f19), q15, q16, (CC.safe (own_lt (by omega)) q17), by omega⟩)
def Q123 (Z : State) (b1 b2 : Addr) (b3 b4 b5 b6 : Int32) (h0 : Heap) (v : Option Value) (h : Heap) (vm : Vm) : Prop := ∃ (xa1 : Addr) (xa2 : Addr) (xa3 : Addr) (xk1 : ClassId), v = some (.ref xa1) ∧ ex4 Z h xa1 ∧ fd3 Z h xa1 (.ref b1) ∧ fd2 Z h xa1 (.ref xa2) ∧ fd4 Z h xa1 (.ref b2) ∧ ex1 Z h xa2 ∧ fd1 Z h xa2 (.int 0) ∧ fd0 Z h xa2 (.ref xa3) ∧ Safe Z EL0 vm h xa2 ∧ av0 Z h xa3 xk1 6 [.int b3, .int b4, .int b5, .int b6, .int 47, .int 42] ∧ ex0 Z h xa3 ∧ Safe Z EL0 vm h xa3 ∧ h0.size ≤ xa1 ∧ h.size > xa1 ∧ h0.size ≤ xa2 ∧ h.size > xa2 ∧ NE xa1 xa2 ∧ h0.size ≤ xa3 ∧ h.size > xa3 ∧ NE xa1 xa3 ∧ NE xa2 xa3
theorem rm_au258 (G : GL l Z a0 zc fmt kpp) (F0 : ex1 Z h0 pa1) (F1 : fd1 Z h0 pa1 (.int 0)) (F2 : fd0 Z h0 pa1 (.ref pa2)) (F3 : av0 Z h0 pa2 pk1 4 [.int pi100, .int pi1, .int pi2, .int pi3]) (F4 : ex0 Z h0 pa2) : M8 l Z 6 7 45 115 #[.ref pa1] h0 n0 [] [] (Q123 Z kpp pa1 pi100 pi1 pi2 pi3 h0) := by
  have hw := G.1
  refine mi B8 ef7 (hEW G) fun s X0 hsf0 n0le => ?_
  have l1 := F0.l
  have := F3.l
  refine o_new 3 X0 (w38 G) (w39 G) (w36 G) d8_0 rfl (by decide) (by decide) ?_
  intro _ h1 b1 X1 _ l1 E1 A1 D1 _ _ _
  have f2 : fd2 Z h1 b1 .null := D1 (Or.inr (w159 G)) fd_2
  have f3 : fd3 Z h1 b1 .null := D1 (Or.inr (w161 G)) fd_3
  have f4 : fd4 Z h1 b1 .null := D1 (Or.inr (w163 G)) fd_2
  refine oD 4 X1 d8_3 rfl rfl <| o_new 7 X1 (w40 G) (w41 G) (w42 G) d8_4 rfl (by decide) (by decide) ?_
  intro _ h5 b5 X5 _ _ E5 A5 D5 _ _ _
  have f6 : fd5 Z h5 b5 .null := D5 (Or.inl (w55 G)) fd_0
  have f7 : fd6 Z h5 b5 (.int 0) := D5 (Or.inl (w57 G)) fd_1
  have f8 : fd7 Z h5 b5 (.int 0) := D5 (Or.inl (w79 G)) fd_4
  have f9 : fd8 Z h5 b5 (.int 0) := D5 (Or.inl (w238 G)) fd_5
  refine oD 8 X5 d8_7 rfl rfl <| mP 11 3 X5 (rm_au8 G A5 f7 f8 f9 f6 (by omega)) (u6 G) all0 d8_8 rfl rfl rfl lr (by decide) (aR (by omega) all0) ?_
  rintro _ _ _ _ X10 ⟨xa1_11, _, rfl, q13, q14, q15, q16, q17, q18, q19, q20, _⟩ K10 _ _
  refine oA 12 X10 d8_11 rfl rfl ?_
  have f22 := ((F0.ext E1).ext E5).keep K10
  have f23 := ((F1.ext E1).ext E5).k1 K10 (by omega)
  have f24 := ((F2.ext E1).ext E5).k1 K10 (by omega)
  have f25 := ((F3.ext E1).ext E5).k1 K10 (by omega)
  refine mV 15 2 X10 q13 (rm_au248 G q13 q14 q15 q16 q17 f22 f23 f24 q18 q19 f25 (by omega)) (u15 G) (sS (by omega) q20 all0) d8_12 rfl rfl rfl lr (by decide) (aR (by omega) (aR (by omega) all0)) ?_
  rintro _ _ _ _ X26 ⟨rfl, q27, q28, q29, q30, q31, q32, q33⟩ K26 _ C26
  refine o_ldcC 17 (n := 8) (vs := own_bs ([47, 42] : List Int32)) (z := (2 : Int32)) X26 (w105 G) (hws_str hw) (by decide) ⟨by decide, rfl⟩ (by decide) (by decide) d8_15 rfl (by decide) (by decide) (by decide) (by decide) ?_
  intro a34 b34 kb34 _ h34 _ X34 E34 C34 Es34 Cs34 Vs34 As34 SF34
  have lta34 : h34.size > a34 := Es34.lt
  have ltb34 : h34.size > b34 := As34.lt
  have := E34.1
  have Bs34 : av0 Z h34 b34 kb34 2 [.int 47, .int 42] := As34
  have f36 := (((A1.ext E5).keep K10).keep K26).ext E34
  have := own_nes (SF34 b1 (sx X34 f36 nc2))
  have f38 := q27.ext E34
  have := own_nes (SF34 b5 (sx X34 f38 nc1))
  have f40 := C34.safe (own_lt (by omega)) (C26.safe (own_lt (by omega)) q20)
  have := own_nes (SF34 xa1_11 f40)
  have f41 := q28.ext E34
  have f42 := q29.ext E34
  have f43 := q30.ext E34
  have f44 := q31.ext E34
  have f45 := q32.ext E34
  have f46 := q33.ext E34
  refine mV 20 2 X34 f38 (rm_au252 G f38 f41 f42 f43 f44 Es34 Cs34 Vs34 f45 f46 Bs34 (by omega)) (u15 G) (sS (by omega) f40 all0) d8_17 rfl rfl rfl lr (by decide) (aR (by omega) (aR (by omega) all0)) ?_
  rintro _ _ _ _ X47 ⟨rfl, q48, q49, q50, _, q52, q53, _⟩ K47 _ _
  refine mV 23 2 X47 q48 (rm_au257 G q48 q49 q50 q52 q53) (u26 G) all0 d8_20 rfl rfl rfl lr (by decide) all0 ?_
  rintro _ _ _ _ X55 ⟨xa1_56, xa2_57, xk1_58, rfl, q59, q60, q61, q62, q63, q64, q65, _⟩ K55 _ _
  refine oG 26 X55 (w151 G) Via.refl ((sg1 G).ext X55.old.2) d8_23 rfl ?_
  intro _ X68
  refine oA 27 X68 d8_26 rfl rfl ?_
  have f69 := (f36.keep K47).keep K55
  have f70 := (((((f3.ext E5).k1 K10 (by omega)).k2 K26 (by omega)).ext E34).k2 K47 (by omega)).k0 K55
  have f71 := (((((f2.ext E5).k1 K10 (by omega)).k2 K26 (by omega)).ext E34).k2 K47 (by omega)).k0 K55
  have f72 := (((((f4.ext E5).k1 K10 (by omega)).k2 K26 (by omega)).ext E34).k2 K47 (by omega)).k0 K55
  refine mP 30 1 X68 (rm_au33 G f69 f70 f71 f72 (by omega)) (u27 G) all0 d8_27 rfl rfl rfl lr (by decide) (aR (by omega) all0) ?_
  rintro _ _ _ _ X73 ⟨rfl, q74, q75, q76, q77⟩ K73 _ C73
  have f78 := q59.keep K73
  have f79 := q60.k1 K73 (by omega)
  have f80 := q61.k1 K73 (by omega)
  have f81 := C73.safe (own_lt (by omega)) q62
  have f82 := q63.k1 K73 (by omega)
  have f83 := q64.keep K73
  have f84 := C73.safe (own_lt (by omega)) q65
  exact oR X73 d8_30 rfl rfl rfl (by decide) (by decide) (fun _ CC => ⟨b1, xa1_56, xa2_57, xk1_58, rfl, q74, q75, q76, q77, f78, f79, f80, (CC.safe (own_lt (by omega)) f81), f82, f83, (CC.safe (own_lt (by omega)) f84), by omega⟩)
theorem rm_au259 (G : GL l Z a0 zc fmt kpp) (F0 : av0 Z h0 pa1 pk1 6 [.int pi1, .int pi2, .int pi3, .int pi4, .int pi5, .int pi6]) (F1 : av0 Z h0 pa2 pk2 6 [.int pi7, .int pi2, .int pi3, .int pi4, .int pi8, .int pi9]) (pc_0 : pi1 = pi7) (pc_1 : pi5 = pi8) (pc_2 : pi6 = pi9) : M33 l Z 0 0 0 0 #[.ref pa1, .ref pa2] h0 n0 [] [] (Q16 Z  h0) := by
  refine mi B33 ef8 (hEW G) fun s X0 hsf0 n0le => ?_
  have := F0.l
  have := F1.l
  refine oA 1 X0 d33_0 rfl rfl <| oL 2 X0 F0 d33_1 rfl <| oA 3 X0 d33_2 rfl rfl <| oL 4 X0 F1 d33_3 rfl <| oN 7 X0 d33_4 rfl (teq (by decide)).2 <| oc 8 (v := 0) X0 d33_7 rfl (by decide) <| oT 9 (l' := #[rr pa1, rr pa2, ii 0]) X0 d33_8 rfl rfl <| oI 10 X0 d33_9 rfl rfl <| oA 11 X0 d33_10 rfl rfl <| oL 12 X0 F0 d33_11 rfl <| oN 15 X0 d33_12 rfl (tlt (by decide)).2.1 <| oA 16 X0 d33_15 rfl rfl ?_
  refine oI 17 X0 d33_16 rfl rfl <| oB 18 (v := (.int pi1)) X0 F0 ⟨by decide, by decide⟩ rfl d33_17 rfl <| oA 19 X0 d33_18 rfl rfl <| oI 20 X0 d33_19 rfl rfl <| oB 21 (v := (.int pi7)) X0 F1 ⟨by decide, by decide⟩ rfl d33_20 rfl <| oY 26 X0 d33_21 (by decide) (teq pc_0).1 <| oJ 29 1 #[rr pa1, rr pa2, ii 1] X0 d33_26 rfl rfl (by decide) rfl <| og 9 X0 d33_29 (by decide) <| oI 10 X0 d33_9 rfl rfl <| oA 11 X0 d33_10 rfl rfl <| oL 12 X0 F0 d33_11 rfl <| oN 15 X0 d33_12 rfl (tlt (by decide)).2.1 ?_
  refine oA 16 X0 d33_15 rfl rfl <| oI 17 X0 d33_16 rfl rfl <| oB 18 (v := (.int pi2)) X0 F0 ⟨by decide, by decide⟩ rfl d33_17 rfl <| oA 19 X0 d33_18 rfl rfl <| oI 20 X0 d33_19 rfl rfl <| oB 21 (v := (.int pi2)) X0 F1 ⟨by decide, by decide⟩ rfl d33_20 rfl <| oY 26 X0 d33_21 (by decide) (teq rfl).1 <| oJ 29 2 #[rr pa1, rr pa2, ii 2] X0 d33_26 rfl rfl (by decide) rfl <| og 9 X0 d33_29 (by decide) <| oI 10 X0 d33_9 rfl rfl <| oA 11 X0 d33_10 rfl rfl <| oL 12 X0 F0 d33_11 rfl ?_
  refine oN 15 X0 d33_12 rfl (tlt (by decide)).2.1 <| oA 16 X0 d33_15 rfl rfl <| oI 17 X0 d33_16 rfl rfl <| oB 18 (v := (.int pi3)) X0 F0 ⟨by decide, by decide⟩ rfl d33_17 rfl <| oA 19 X0 d33_18 rfl rfl <| oI 20 X0 d33_19 rfl rfl <| oB 21 (v := (.int pi3)) X0 F1 ⟨by decide, by decide⟩ rfl d33_20 rfl <| oY 26 X0 d33_21 (by decide) (teq rfl).1 <| oJ 29 3 #[rr pa1, rr pa2, ii 3] X0 d33_26 rfl rfl (by decide) rfl <| og 9 X0 d33_29 (by decide) <| oI 10 X0 d33_9 rfl rfl <| oA 11 X0 d33_10 rfl rfl ?_
  refine oL 12 X0 F0 d33_11 rfl <| oN 15 X0 d33_12 rfl (tlt (by decide)).2.1 <| oA 16 X0 d33_15 rfl rfl <| oI 17 X0 d33_16 rfl rfl <| oB 18 (v := (.int pi4)) X0 F0 ⟨by decide, by decide⟩ rfl d33_17 rfl <| oA 19 X0 d33_18 rfl rfl <| oI 20 X0 d33_19 rfl rfl <| oB 21 (v := (.int pi4)) X0 F1 ⟨by decide, by decide⟩ rfl d33_20 rfl <| oY 26 X0 d33_21 (by decide) (teq rfl).1 <| oJ 29 4 #[rr pa1, rr pa2, ii 4] X0 d33_26 rfl rfl (by decide) rfl <| og 9 X0 d33_29 (by decide) <| oI 10 X0 d33_9 rfl rfl ?_
  refine oA 11 X0 d33_10 rfl rfl <| oL 12 X0 F0 d33_11 rfl <| oN 15 X0 d33_12 rfl (tlt (by decide)).2.1 <| oA 16 X0 d33_15 rfl rfl <| oI 17 X0 d33_16 rfl rfl <| oB 18 (v := (.int pi5)) X0 F0 ⟨by decide, by decide⟩ rfl d33_17 rfl <| oA 19 X0 d33_18 rfl rfl <| oI 20 X0 d33_19 rfl rfl <| oB 21 (v := (.int pi8)) X0 F1 ⟨by decide, by decide⟩ rfl d33_20 rfl <| oY 26 X0 d33_21 (by decide) (teq pc_1).1 <| oJ 29 5 #[rr pa1, rr pa2, ii 5] X0 d33_26 rfl rfl (by decide) rfl <| og 9 X0 d33_29 (by decide) ?_
  refine oI 10 X0 d33_9 rfl rfl <| oA 11 X0 d33_10 rfl rfl <| oL 12 X0 F0 d33_11 rfl <| oN 15 X0 d33_12 rfl (tlt (by decide)).2.1 <| oA 16 X0 d33_15 rfl rfl <| oI 17 X0 d33_16 rfl rfl <| oB 18 (v := (.int pi6)) X0 F0 ⟨by decide, by decide⟩ rfl d33_17 rfl <| oA 19 X0 d33_18 rfl rfl <| oI 20 X0 d33_19 rfl rfl <| oB 21 (v := (.int pi9)) X0 F1 ⟨by decide, by decide⟩ rfl d33_20 rfl <| oY 26 X0 d33_21 (by decide) (teq pc_2).1 <| oJ 29 6 #[rr pa1, rr pa2, ii 6] X0 d33_26 rfl rfl (by decide) rfl ?_
  refine og 9 X0 d33_29 (by decide) <| oI 10 X0 d33_9 rfl rfl <| oA 11 X0 d33_10 rfl rfl <| oL 12 X0 F0 d33_11 rfl <| oY 32 X0 d33_12 (by decide) (flt (by decide)).2.1 <| oc 33 (v := 1) X0 d33_32 rfl (by decide) ?_
  exact o_nret (y := (1 : Int32)) (t := .boolean) X0 d33_33 rfl (by decide) (by simp) (by decide) (by decide) (fun _ CC => rfl)
theorem rm_au260 (G : GL l Z a0 zc fmt kpp) (F0 : fd1 Z h0 pa1 (.int pi100)) (F1 : fd0 Z h0 pa1 (.ref pa3)) (F2 : ex1 Z h0 pa2) (F3 : fd1 Z h0 pa2 (.int pi101)) (F4 : fd0 Z h0 pa2 (.ref pa4)) (F5 : av0 Z h0 pa3 pk1 6 [.int pi102, .int pi1, .int pi2, .int pi3, .int pi103, .int pi104]) (F6 : av0 Z h0 pa4 pk2 6 [.int pi105, .int pi1, .int pi2, .int pi3, .int pi106, .int pi107]) (pc_0 : pi100 = pi101) (pc_1 : pi102 = pi105) (pc_2 : pi103 = pi106) (pc_3 : pi104 = pi107) (ne : NE pa1 pa2) : M32 l Z 1 0 0 14 #[.ref pa1, .ref pa2] h0 n0 [] [] (Q16 Z  h0) := by
  refine mi B32 ef8 (hEW G) fun s X0 hsf0 n0le => ?_
  have := F0.l
  have := F2.l
  have := F5.l
  have := F6.l
  refine oA 1 X0 d32_0 rfl rfl <| oA 2 X0 d32_1 rfl rfl <| o_acmp 7 (same := false) X0 d32_2 rfl rfl (decide_eq_false (fun q => absurd (Value.ref.inj q) (own_ne (by omega)))) (by decide) (by decide) <| oA 8 X0 d32_7 rfl rfl <| o_instY 11 X0 (w174 G) (Ins.self F2) d32_8 rfl ?_
  intro _ X2
  refine on 14 X2 d32_11 rfl ((if0 _ _).trans (feq (by decide)).1) <| oA 15 X2 d32_14 rfl rfl <| o_castY 18 X2 (w174 G) (Ins.self F2) d32_15 rfl ?_
  intro _ X4
  refine oV 19 (l' := #[rr pa1, rr pa2, rr pa2]) X4 d32_18 rfl rfl rfl <| oG 22 X4 (w23 G) Via.refl ((sg5 G).ext X4.old.2) d32_19 rfl ?_
  intro _ X6
  refine on 25 X6 d32_22 rfl ((if0 _ _).trans (feq (hzc G)).1) <| oA 26 X6 d32_25 rfl rfl <| oF 29 X6 (w22 G) Via.refl F0 d32_26 rfl ?_
  intro _ X8
  refine oA 30 X8 d32_29 rfl rfl <| oF 33 X8 (w22 G) Via.refl F3 d32_30 rfl ?_
  intro _ X10
  refine oN 36 X10 d32_33 rfl (teq pc_0).2 <| oA 37 X10 d32_36 rfl rfl <| oF 40 X10 (w21 G) Via.refl F1 d32_37 rfl ?_
  intro _ X12
  refine oA 41 X12 d32_40 rfl rfl <| oF 44 X12 (w21 G) Via.refl F4 d32_41 rfl ?_
  intro _ X14
  refine mS 47 0 X14 (rm_au259 G F5 F6 pc_1 pc_2 pc_3) (u30 G) all0 d32_44 rfl rfl rfl lr (by decide) all0 ?_
  rintro _ _ _ _ X15 rfl _ _ _
  refine on 50 X15 d32_47 rfl ((if0 _ _).trans (feq (by decide)).1) <| oc 51 (v := 1) X15 d32_50 rfl (by decide) <| og 55 X15 d32_51 (by decide) ?_
  exact o_nret (y := (1 : Int32)) (t := .boolean) X15 d32_55 rfl (by decide) (by simp) (by decide) (by decide) (fun _ CC => rfl)
theorem rm_law (G : GL l Z a0 zc fmt kpp) (wl : List Jvm.Cond) (p1 p2 p3 : Int32) {h0 : Heap} {n0 : Nat}  :
    Old Z n0 h0 → Met l x code maxLocals ret wl room_1 Z #[.int p1, .int p2, .int p3] h0 n0 [] EL0 false [] (Q16 Z  h0) := by
  refine mi B2 ef2 (hEW G) fun s X0 hsf0 n0le => ?_
  refine oI 1 X0 at_0 rfl rfl <| oc 2 (v := 3) X0 at_1 rfl (by decide) ?_
  rcases own_and3 p1 with hk1 | hk1 | hk1 | hk1
  · refine o_iand 3 (v := 0) X0 at_2 rfl hk1 <| oT 4 (l' := #[ii p1, ii p2, ii p3, ii 0, uu, uu, uu, uu, uu, uu]) X0 at_3 rfl rfl <| oI 5 X0 at_4 rfl rfl <| o_ldcI 7 (v := (65535 : Int32)) X0 (w0 G) at_5 rfl <| o_iand 8 (v := (p2 &&& (65535 : Int32))) X0 at_7 rfl rfl ?_
    obtain ⟨c2, ce3⟩ : ∃ z : Int32, (p2 &&& (65535 : Int32)).toUInt32.toUInt16.toUInt32.toInt32 = z := ⟨_, rfl⟩
    refine o_i2c 9 (v := c2) X0 at_8 rfl ce3 <| oS 11 (l' := #[ii p1, ii p2, ii p3, ii 0, ii c2, uu, uu, uu, uu, uu]) X0 at_9 rfl rfl <| oI 12 X0 at_11 rfl rfl <| ob 14 (v := 16) X0 at_12 rfl (by decide) <| o_iushr 15 (v := ((p2.toUInt32 >>> ((16 : Int32) &&& 31).toUInt32).toInt32)) X0 at_14 rfl rfl <| o_ldcI 17 (v := (65535 : Int32)) X0 (w0 G) at_15 rfl <| o_iand 18 (v := (((p2.toUInt32 >>> ((16 : Int32) &&& 31).toUInt32).toInt32) &&& (65535 : Int32))) X0 at_17 rfl rfl ?_
    obtain ⟨c4, ce5⟩ : ∃ z : Int32, (((p2.toUInt32 >>> ((16 : Int32) &&& 31).toUInt32).toInt32) &&& (65535 : Int32)).toUInt32.toUInt16.toUInt32.toInt32 = z := ⟨_, rfl⟩
    refine o_i2c 19 (v := c4) X0 at_18 rfl ce5 <| oS 21 (l' := #[ii p1, ii p2, ii p3, ii 0, ii c2, ii c4, uu, uu, uu, uu]) X0 at_19 rfl rfl <| oI 22 X0 at_21 rfl rfl <| o_ldcI 24 (v := (65535 : Int32)) X0 (w0 G) at_22 rfl <| o_iand 25 (v := (p3 &&& (65535 : Int32))) X0 at_24 rfl rfl ?_
    obtain ⟨c6, ce7⟩ : ∃ z : Int32, (p3 &&& (65535 : Int32)).toUInt32.toUInt16.toUInt32.toInt32 = z := ⟨_, rfl⟩
    refine o_i2c 26 (v := c6) X0 at_25 rfl ce7 <| oS 28 (l' := #[ii p1, ii p2, ii p3, ii 0, ii c2, ii c4, ii c6, uu, uu, uu]) X0 at_26 rfl rfl <| oI 29 X0 at_28 rfl rfl <| on 32 X0 at_29 rfl ((if0 _ _).trans (teq (by decide)).2) <| o_new 35 X0 (w1 G) (w2 G) (w3 G) at_32 rfl (by decide) (by decide) ?_
    intro _ h8 b8 X8 _ _ _ A8 D8 _ _ S8
    have f9 : fd0 Z h8 b8 .null := D8 (Or.inr (w17 G)) fd_0
    have f10 : fd1 Z h8 b8 (.int 0) := D8 (Or.inr (w18 G)) fd_1
    refine oD 36 X8 at_35 rfl rfl <| oc 37 (v := 0) X8 at_36 rfl (by decide) <| nP (aty := .char) 39 0 X8 (w4 G) at_37 rfl (by decide) had_char ?_
    intro _ h11 b11 k11 X11 _ _ E11 V11 A11 C11 _
    have V12 : av1 Z h11 b11 k11 0 [] := V11.pad (pad_rep [] (.int (0 : Int32)) 0)
    have f13 := A8.ext E11
    have f14 := f10.ext E11
    have f15 := f9.ext E11
    have f16 := C11.safe (own_lt (by omega)) S8
    refine mP 42 1 X11 (rm_au1 G f13 f14 f15 V12 A11 (by decide) (by omega)) (u1 G) (sS (by omega) f16 all0) at_39 rfl rfl rfl lr (by decide) (aR (by omega) all0) ?_
    rintro _ _ _ _ X17 ⟨_, _, rfl, q20, q21, q22, q23, _⟩ _ _ _
    refine oU 44 (l' := #[ii p1, ii p2, ii p3, ii 0, ii c2, ii c4, ii c6, rr b8, uu, uu]) X17 at_42 rfl rfl rfl <| o_new 47 X17 (w1 G) (w2 G) (w3 G) at_44 rfl (by decide) (by decide) ?_
    intro _ h25 b25 X25 _ _ E25 A25 D25 _ _ S25
    have f26 : fd0 Z h25 b25 .null := D25 (Or.inr (w17 G)) fd_0
    have f27 : fd1 Z h25 b25 (.int 0) := D25 (Or.inr (w18 G)) fd_1
    refine oD 48 X25 at_47 rfl rfl <| oc 49 (v := 2) X25 at_48 rfl (by decide) <| nP (aty := .char) 51 2 X25 (w4 G) at_49 rfl (by decide) had_char ?_
    intro _ h28 b28 k28 X28 _ _ E28 V28 A28 C28 _
    have V29 : av1 Z h28 b28 k28 2 [i0, i0] := V28.pad (pad_rep [] (.int (0 : Int32)) 2)
    refine oD 52 X28 at_51 rfl rfl <| oc 53 (v := 0) X28 at_52 rfl (by decide) <| ob 55 (v := 47) X28 at_53 rfl (by decide) <| sC 56 0 47 X28 V29 (by decide) (lb rfl) (by decide) at_55 rfl (by omega) (Or.inr (by omega)) (sx X28 A28 nc0) ?_
    rintro _ _ X30 ⟨_, _, W30⟩ C30 V30
    have := W30.size
    have V31 := V30.as [.int 47, i0] rfl
    refine oD 57 X30 at_56 rfl rfl <| oc 58 (v := 1) X30 at_57 rfl (by decide) <| ob 60 (v := 42) X30 at_58 rfl (by decide) ?_
    have f33 := A28.wr W30
    refine sC 61 1 42 X30 V31 (by decide) (lb rfl) (by decide) at_60 rfl (by omega) (Or.inr (by omega)) (sx X30 f33 nc0) ?_
    rintro _ _ X32 ⟨_, _, W32⟩ C32 V32
    have := W32.size
    have V34 := V32.as [.int 47, .int 42] rfl
    have f35 := ((A25.ext E28).wr W30).wr W32
    have f36 := ((f27.ext E28).oth W30 (by omega)).oth W32 (by omega)
    have f37 := ((f26.ext E28).oth W30 (by omega)).oth W32 (by omega)
    have f38 := C32.safe (own_lt (by omega)) (C30.safe (own_lt (by omega)) (C28.safe (own_lt (by omega)) S25))
    refine mP 64 1 X32 (rm_au6 G f35 f36 f37 V34 (by omega)) (u1 G) (sS (by omega) f38 all0) at_61 rfl rfl rfl lr (by decide) (aR (by omega) all0) ?_
    rintro _ _ _ _ X39 ⟨_, _, rfl, q42, q43, q44, q45, _, _, _⟩ K39 _ _
    refine oU 66 (l' := #[ii p1, ii p2, ii p3, ii 0, ii c2, ii c4, ii c6, rr b8, rr b25, uu]) X39 at_64 rfl rfl rfl <| og 305 X39 at_66 (by decide) <| oa 307 X39 at_305 rfl rfl ?_
    have f49 := ((((q20.ext E25).ext E28).wr W30).wr W32).keep K39
    have f50 := ((((q21.ext E25).ext E28).oth W30 (by omega)).oth W32 (by omega)).k1 K39 (by omega)
    have f51 := ((((q22.ext E25).ext E28).oth W30 (by omega)).oth W32 (by omega)).k1 K39 (by omega)
    have f52 := ((((q23.ext E25).ext E28).oth W30 (by omega)).oth W32 (by omega)).k1 K39 (by omega)
    refine mS 310 0 X39 (rm_au34 G f49 f50 f51 f52) (u28 G) all0 at_307 rfl rfl rfl lr (by decide) all0 ?_
    rintro _ _ _ _ X53 ⟨xa1_54, _, _, _, rfl, q58, q59, q60, q61, q62, q63, q64, _, q66, _, _, _⟩ K53 _ _
    refine oU 312 (l' := #[ii p1, ii p2, ii p3, ii 0, ii c2, ii c4, ii c6, rr b8, rr b25, rr xa1_54]) X53 at_310 rfl rfl rfl <| oa 314 X53 at_312 rfl rfl <| mV 317 0 X53 q58 (rm_au35 G q60) (u29 G) all0 at_314 rfl rfl rfl lr (by decide) all0 ?_
    rintro _ _ _ _ X70 rfl K70 _ _
    refine oa 319 X70 at_317 rfl rfl ?_
    have f71 := q63.k0 K70
    have f72 := q64.k0 K70
    have f73 := (q42.keep K53).keep K70
    have f74 := (q43.k0 K53).k0 K70
    have f75 := (q44.k0 K53).k0 K70
    have f76 := q66.k0 K70
    have f77 := (q45.k0 K53).k0 K70
    have f78 := q62.keep K70
    refine mV 322 0 X70 f78 (rm_au37 G f71 f72 f73 f74 f75 f76 f77 (by decide) (by decide) (by decide) (by omega)) (u31 G) all0 at_319 rfl rfl rfl lr (by decide) all0 ?_
    rintro _ _ _ _ X79 rfl K79 _ _
    refine on 325 X79 at_322 rfl ((if0 _ _).trans (feq (by decide)).1) <| oa 327 X79 at_325 rfl rfl ?_
    have f80 := (q59.k0 K70).k0 K79
    have f81 := (q58.keep K70).keep K79
    refine mV 330 0 X79 f81 (rm_au38 G f80) (u32 G) all0 at_327 rfl rfl rfl lr (by decide) all0 ?_
    rintro _ _ _ _ X82 rfl K82 _ _
    refine oG 333 X82 (w184 G) Via.refl ((sg1 G).ext X82.old.2) at_330 rfl ?_
    intro _ X84
    refine o_acmp 336 (same := true) X84 at_333 rfl rfl (decide_eq_true rfl) (by decide) (by decide) <| oa 338 X84 at_336 rfl rfl ?_
    have f85 := ((q61.k0 K70).k0 K79).k0 K82
    have f86 := f81.keep K82
    refine mV 341 0 X84 f86 (rm_au39 G f85) (u33 G) all0 at_338 rfl rfl rfl lr (by decide) all0 ?_
    rintro _ _ _ _ X87 rfl K87 _ _
    refine oa 343 X87 at_341 rfl rfl ?_
    have f88 := ((((f49.keep K53).keep K70).keep K79).keep K82).keep K87
    refine mV 346 0 X87 f88 (rm_au40 G ) (u31 G) all0 at_343 rfl rfl rfl lr (by decide) all0 ?_
    rintro _ _ _ _ X89 rfl _ _ _
    refine on 349 X89 at_346 rfl ((if0 _ _).trans (feq (by decide)).1) <| oc 350 (v := 1) X89 at_349 rfl (by decide) <| og 354 X89 at_350 (by decide) ?_
    exact o_nret (y := (1 : Int32)) (t := .boolean) X89 at_354 rfl (by decide) (by simp) (by decide) (by decide) (fun _ CC => rfl)
  · refine o_iand 3 (v := 1) X0 at_2 rfl hk1 <| oT 4 (l' := #[ii p1, ii p2, ii p3, ii 1, uu, uu, uu, uu, uu, uu]) X0 at_3 rfl rfl <| oI 5 X0 at_4 rfl rfl <| o_ldcI 7 (v := (65535 : Int32)) X0 (w0 G) at_5 rfl <| o_iand 8 (v := (p2 &&& (65535 : Int32))) X0 at_7 rfl rfl ?_
    obtain ⟨c90, ce91⟩ : ∃ z : Int32, (p2 &&& (65535 : Int32)).toUInt32.toUInt16.toUInt32.toInt32 = z := ⟨_, rfl⟩
    refine o_i2c 9 (v := c90) X0 at_8 rfl ce91 <| oS 11 (l' := #[ii p1, ii p2, ii p3, ii 1, ii c90, uu, uu, uu, uu, uu]) X0 at_9 rfl rfl <| oI 12 X0 at_11 rfl rfl <| ob 14 (v := 16) X0 at_12 rfl (by decide) <| o_iushr 15 (v := ((p2.toUInt32 >>> ((16 : Int32) &&& 31).toUInt32).toInt32)) X0 at_14 rfl rfl <| o_ldcI 17 (v := (65535 : Int32)) X0 (w0 G) at_15 rfl <| o_iand 18 (v := (((p2.toUInt32 >>> ((16 : Int32) &&& 31).toUInt32).toInt32) &&& (65535 : Int32))) X0 at_17 rfl rfl ?_
    obtain ⟨c92, ce93⟩ : ∃ z : Int32, (((p2.toUInt32 >>> ((16 : Int32) &&& 31).toUInt32).toInt32) &&& (65535 : Int32)).toUInt32.toUInt16.toUInt32.toInt32 = z := ⟨_, rfl⟩
    refine o_i2c 19 (v := c92) X0 at_18 rfl ce93 <| oS 21 (l' := #[ii p1, ii p2, ii p3, ii 1, ii c90, ii c92, uu, uu, uu, uu]) X0 at_19 rfl rfl <| oI 22 X0 at_21 rfl rfl <| o_ldcI 24 (v := (65535 : Int32)) X0 (w0 G) at_22 rfl <| o_iand 25 (v := (p3 &&& (65535 : Int32))) X0 at_24 rfl rfl ?_
    obtain ⟨c94, ce95⟩ : ∃ z : Int32, (p3 &&& (65535 : Int32)).toUInt32.toUInt16.toUInt32.toInt32 = z := ⟨_, rfl⟩
    refine o_i2c 26 (v := c94) X0 at_25 rfl ce95 <| oS 28 (l' := #[ii p1, ii p2, ii p3, ii 1, ii c90, ii c92, ii c94, uu, uu, uu]) X0 at_26 rfl rfl <| oI 29 X0 at_28 rfl rfl <| oy 69 X0 at_29 (by decide) ((if0 _ _).trans (feq (by decide)).2) <| oI 70 X0 at_69 rfl rfl <| oc 71 (v := 1) X0 at_70 rfl (by decide) <| oN 74 X0 at_71 rfl (teq (by decide)).2 <| oi 76 X0 at_74 rfl rfl <| ob 78 (v := 47) X0 at_76 rfl (by decide) ?_
    by_cases hc96 : c90 = (47 : Int32)
    · refine oN 81 X0 at_78 rfl (teq hc96).2 <| oc 82 (v := 1) X0 at_81 rfl (by decide) ?_
      exact o_nret (y := (1 : Int32)) (t := .boolean) X0 at_82 rfl (by decide) (by simp) (by decide) (by decide) (fun _ CC => rfl)
    · refine oY 83 X0 at_78 (by decide) (feq hc96).2 ?_
      by_cases hc97 : (255 : Int32) < c90
      · refine o_new 86 X0 (w1 G) (w2 G) (w3 G) at_83 rfl (by decide) (by decide) ?_
        intro _ h98 b98 X98 _ _ _ A98 D98 _ _ S98
        have f99 : fd0 Z h98 b98 .null := D98 (Or.inr (w17 G)) fd_0
        have f100 : fd1 Z h98 b98 (.int 0) := D98 (Or.inr (w18 G)) fd_1
        refine oD 87 X98 at_86 rfl rfl <| oc 88 (v := 2) X98 at_87 rfl (by decide) <| nP (aty := .char) 90 2 X98 (w4 G) at_88 rfl (by decide) had_char ?_
        intro _ h101 b101 k101 X101 _ _ E101 V101 A101 C101 _
        have V102 : av1 Z h101 b101 k101 2 [i0, i0] := V101.pad (pad_rep [] (.int (0 : Int32)) 2)
        refine oD 91 X101 at_90 rfl rfl <| oc 92 (v := 0) X101 at_91 rfl (by decide) <| ob 94 (v := 47) X101 at_92 rfl (by decide) <| sC 95 0 47 X101 V102 (by decide) (lb rfl) (by decide) at_94 rfl (by omega) (Or.inr (by omega)) (sx X101 A101 nc0) ?_
        rintro _ _ X103 ⟨_, _, W103⟩ C103 V103
        have := W103.size
        have V104 := V103.as [.int 47, i0] rfl
        refine oD 96 X103 at_95 rfl rfl <| oc 97 (v := 1) X103 at_96 rfl (by decide) <| oi 99 X103 at_97 rfl rfl ?_
        have f106 := A101.wr W103
        refine sC 100 1 c90 X103 V104 (by decide) (lb rfl) (own_nc2 ce91) at_99 rfl (by omega) (Or.inr (by omega)) (sx X103 f106 nc0) ?_
        rintro _ _ X105 ⟨_, _, W105⟩ C105 V105
        have := W105.size
        have V107 := V105.as [.int 47, .int c90] rfl
        have f108 := ((A98.ext E101).wr W103).wr W105
        have f109 := ((f100.ext E101).oth W103 (by omega)).oth W105 (by omega)
        have f110 := ((f99.ext E101).oth W103 (by omega)).oth W105 (by omega)
        have f111 := C105.safe (own_lt (by omega)) (C103.safe (own_lt (by omega)) (C101.safe (own_lt (by omega)) S98))
        refine mP 103 1 X105 (rm_au48 G f108 f109 f110 V107 (⟨hc97, own_le16 ce91⟩ : (255 : Int32) < c90 ∧ ¬ (65535 : Int32) < c90) (by omega)) (u1 G) (sS (by omega) f111 all0) at_100 rfl rfl rfl lr (by decide) (aR (by omega) all0) ?_
        rintro _ _ _ _ X112 ⟨_, _, rfl, q115, q116, q117, q118, q119, _, _⟩ _ _ _
        refine oU 105 (l' := #[ii p1, ii p2, ii p3, ii 1, ii c90, ii c92, ii c94, rr b98, uu, uu]) X112 at_103 rfl rfl rfl <| o_new 108 X112 (w1 G) (w2 G) (w3 G) at_105 rfl (by decide) (by decide) ?_
        intro _ h122 b122 X122 _ _ E122 A122 D122 _ _ S122
        have f123 : fd0 Z h122 b122 .null := D122 (Or.inr (w17 G)) fd_0
        have f124 : fd1 Z h122 b122 (.int 0) := D122 (Or.inr (w18 G)) fd_1
        refine oD 109 X122 at_108 rfl rfl <| oc 110 (v := 4) X122 at_109 rfl (by decide) <| nP (aty := .char) 112 4 X122 (w4 G) at_110 rfl (by decide) had_char ?_
        intro _ h125 b125 k125 X125 _ _ E125 V125 A125 C125 _
        have V126 : av1 Z h125 b125 k125 4 [i0, i0, i0, i0] := V125.pad (pad_rep [] (.int (0 : Int32)) 4)
        refine oD 113 X125 at_112 rfl rfl <| oc 114 (v := 0) X125 at_113 rfl (by decide) <| ob 116 (v := 47) X125 at_114 rfl (by decide) <| sC 117 0 47 X125 V126 (by decide) (lb rfl) (by decide) at_116 rfl (by omega) (Or.inr (by omega)) (sx X125 A125 nc0) ?_
        rintro _ _ X127 ⟨_, _, W127⟩ C127 V127
        have := W127.size
        have V128 := V127.as [.int 47, i0, i0, i0] rfl
        refine oD 118 X127 at_117 rfl rfl <| oc 119 (v := 1) X127 at_118 rfl (by decide) <| oi 121 X127 at_119 rfl rfl ?_
        have f130 := A125.wr W127
        refine sC 122 1 c90 X127 V128 (by decide) (lb rfl) (own_nc2 ce91) at_121 rfl (by omega) (Or.inr (by omega)) (sx X127 f130 nc0) ?_
        rintro _ _ X129 ⟨_, _, W129⟩ C129 V129
        have := W129.size
        have V131 := V129.as [.int 47, .int c90, i0, i0] rfl
        refine oD 123 X129 at_122 rfl rfl <| oc 124 (v := 2) X129 at_123 rfl (by decide) <| ob 126 (v := 47) X129 at_124 rfl (by decide) ?_
        have f133 := f130.wr W129
        refine sC 127 2 47 X129 V131 (by decide) (lb rfl) (by decide) at_126 rfl (by omega) (Or.inr (by omega)) (sx X129 f133 nc0) ?_
        rintro _ _ X132 ⟨_, _, W132⟩ C132 V132
        have := W132.size
        have V134 := V132.as [.int 47, .int c90, .int 47, i0] rfl
        refine oD 128 X132 at_127 rfl rfl <| oc 129 (v := 3) X132 at_128 rfl (by decide) <| ob 131 (v := 42) X132 at_129 rfl (by decide) ?_
        have f136 := f133.wr W132
        refine sC 132 3 42 X132 V134 (by decide) (lb rfl) (by decide) at_131 rfl (by omega) (Or.inr (by omega)) (sx X132 f136 nc0) ?_
        rintro _ _ X135 ⟨_, _, W135⟩ C135 V135
        have := W135.size
        have V137 := V135.as [.int 47, .int c90, .int 47, .int 42] rfl
        have f138 := ((((A122.ext E125).wr W127).wr W129).wr W132).wr W135
        have f139 := ((((f124.ext E125).oth W127 (by omega)).oth W129 (by omega)).oth W132 (by omega)).oth W135 (by omega)
        have f140 := ((((f123.ext E125).oth W127 (by omega)).oth W129 (by omega)).oth W132 (by omega)).oth W135 (by omega)
        have f141 := C135.safe (own_lt (by omega)) (C132.safe (own_lt (by omega)) (C129.safe (own_lt (by omega)) (C127.safe (own_lt (by omega)) (C125.safe (own_lt (by omega)) S122))))
        refine mP 135 1 X135 (rm_au56 G f138 f139 f140 V137 (⟨hc97, own_le16 ce91⟩ : (255 : Int32) < c90 ∧ ¬ (65535 : Int32) < c90) (by omega)) (u1 G) (sS (by omega) f141 all0) at_132 rfl rfl rfl lr (by decide) (aR (by omega) all0) ?_
        rintro _ _ _ _ X142 ⟨_, _, rfl, q145, q146, q147, q148, _, _, _⟩ K142 _ _
        refine oU 137 (l' := #[ii p1, ii p2, ii p3, ii 1, ii c90, ii c92, ii c94, rr b98, rr b122, uu]) X142 at_135 rfl rfl rfl <| og 305 X142 at_137 (by decide) <| oa 307 X142 at_305 rfl rfl ?_
        have f152 := ((((((q115.ext E122).ext E125).wr W127).wr W129).wr W132).wr W135).keep K142
        have f153 := ((((((q116.ext E122).ext E125).oth W127 (by omega)).oth W129 (by omega)).oth W132 (by omega)).oth W135 (by omega)).k1 K142 (by omega)
        have f154 := ((((((q117.ext E122).ext E125).oth W127 (by omega)).oth W129 (by omega)).oth W132 (by omega)).oth W135 (by omega)).k1 K142 (by omega)
        have f155 := ((((((q118.ext E122).ext E125).oth W127 (by omega)).oth W129 (by omega)).oth W132 (by omega)).oth W135 (by omega)).k1 K142 (by omega)
        have f156 := ((((((q119.ext E122).ext E125).wr W127).wr W129).wr W132).wr W135).keep K142
        refine mS 310 0 X142 (rm_au87 G f152 f153 f154 f155 f156) (u28 G) all0 at_307 rfl rfl rfl lr (by decide) all0 ?_
        rintro _ _ _ _ X157 ⟨xa1_158, _, _, _, rfl, q162, q163, q164, q165, q166, q167, q168, _, q170, _, _, _⟩ K157 _ _
        refine oU 312 (l' := #[ii p1, ii p2, ii p3, ii 1, ii c90, ii c92, ii c94, rr b98, rr b122, rr xa1_158]) X157 at_310 rfl rfl rfl <| oa 314 X157 at_312 rfl rfl <| mV 317 0 X157 q162 (rm_au35 G q164) (u29 G) all0 at_314 rfl rfl rfl lr (by decide) all0 ?_
        rintro _ _ _ _ X174 rfl K174 _ _
        refine oa 319 X174 at_317 rfl rfl ?_
        have f175 := q167.k0 K174
        have f176 := q168.k0 K174
        have f177 := (q145.keep K157).keep K174
        have f178 := (q146.k0 K157).k0 K174
        have f179 := (q147.k0 K157).k0 K174
        have f180 := q170.k0 K174
        have f181 := (q148.k0 K157).k0 K174
        have f182 := q166.keep K174
        refine mV 322 0 X174 f182 (rm_au89 G f175 f176 f177 f178 f179 f180 f181 (by decide) (by decide) (by decide) (by decide) (by decide) (by decide) (by decide) (by omega)) (u31 G) all0 at_319 rfl rfl rfl lr (by decide) all0 ?_
        rintro _ _ _ _ X183 rfl K183 _ _
        refine on 325 X183 at_322 rfl ((if0 _ _).trans (feq (by decide)).1) <| oa 327 X183 at_325 rfl rfl ?_
        have f184 := (q163.k0 K174).k0 K183
        have f185 := (q162.keep K174).keep K183
        refine mV 330 0 X183 f185 (rm_au38 G f184) (u32 G) all0 at_327 rfl rfl rfl lr (by decide) all0 ?_
        rintro _ _ _ _ X186 rfl K186 _ _
        refine oG 333 X186 (w184 G) Via.refl ((sg1 G).ext X186.old.2) at_330 rfl ?_
        intro _ X188
        refine o_acmp 336 (same := true) X188 at_333 rfl rfl (decide_eq_true rfl) (by decide) (by decide) <| oa 338 X188 at_336 rfl rfl ?_
        have f189 := ((q165.k0 K174).k0 K183).k0 K186
        have f190 := f185.keep K186
        refine mV 341 0 X188 f190 (rm_au39 G f189) (u33 G) all0 at_338 rfl rfl rfl lr (by decide) all0 ?_
        rintro _ _ _ _ X191 rfl K191 _ _
        refine oa 343 X191 at_341 rfl rfl ?_
        have f192 := ((((f152.keep K157).keep K174).keep K183).keep K186).keep K191
        refine mV 346 0 X191 f192 (rm_au40 G ) (u31 G) all0 at_343 rfl rfl rfl lr (by decide) all0 ?_
        rintro _ _ _ _ X193 rfl _ _ _
        refine on 349 X193 at_346 rfl ((if0 _ _).trans (feq (by decide)).1) <| oc 350 (v := 1) X193 at_349 rfl (by decide) <| og 354 X193 at_350 (by decide) ?_
        exact o_nret (y := (1 : Int32)) (t := .boolean) X193 at_354 rfl (by decide) (by simp) (by decide) (by decide) (fun _ CC => rfl)
      · refine o_new 86 X0 (w1 G) (w2 G) (w3 G) at_83 rfl (by decide) (by decide) ?_
        intro _ h194 b194 X194 _ _ _ A194 D194 _ _ S194
        have f195 : fd0 Z h194 b194 .null := D194 (Or.inr (w17 G)) fd_0
        have f196 : fd1 Z h194 b194 (.int 0) := D194 (Or.inr (w18 G)) fd_1
        refine oD 87 X194 at_86 rfl rfl <| oc 88 (v := 2) X194 at_87 rfl (by decide) <| nP (aty := .char) 90 2 X194 (w4 G) at_88 rfl (by decide) had_char ?_
        intro _ h197 b197 k197 X197 _ _ E197 V197 A197 C197 _
        have V198 : av1 Z h197 b197 k197 2 [i0, i0] := V197.pad (pad_rep [] (.int (0 : Int32)) 2)
        refine oD 91 X197 at_90 rfl rfl <| oc 92 (v := 0) X197 at_91 rfl (by decide) <| ob 94 (v := 47) X197 at_92 rfl (by decide) <| sC 95 0 47 X197 V198 (by decide) (lb rfl) (by decide) at_94 rfl (by omega) (Or.inr (by omega)) (sx X197 A197 nc0) ?_
        rintro _ _ X199 ⟨_, _, W199⟩ C199 V199
        have := W199.size
        have V200 := V199.as [.int 47, i0] rfl
        refine oD 96 X199 at_95 rfl rfl <| oc 97 (v := 1) X199 at_96 rfl (by decide) <| oi 99 X199 at_97 rfl rfl ?_
        have f202 := A197.wr W199
        refine sC 100 1 c90 X199 V200 (by decide) (lb rfl) (own_nc2 ce91) at_99 rfl (by omega) (Or.inr (by omega)) (sx X199 f202 nc0) ?_
        rintro _ _ X201 ⟨_, _, W201⟩ C201 V201
        have := W201.size
        have V203 := V201.as [.int 47, .int c90] rfl
        have f204 := ((A194.ext E197).wr W199).wr W201
        have f205 := ((f196.ext E197).oth W199 (by omega)).oth W201 (by omega)
        have f206 := ((f195.ext E197).oth W199 (by omega)).oth W201 (by omega)
        have f207 := C201.safe (own_lt (by omega)) (C199.safe (own_lt (by omega)) (C197.safe (own_lt (by omega)) S194))
        refine mP 103 1 X201 (rm_au93 G f204 f205 f206 V203 (own_sm ce91 hc97) (by omega)) (u1 G) (sS (by omega) f207 all0) at_100 rfl rfl rfl lr (by decide) (aR (by omega) all0) ?_
        rintro _ _ _ _ X208 ⟨_, _, rfl, q211, q212, q213, q214, q215, _, _⟩ _ _ _
        refine oU 105 (l' := #[ii p1, ii p2, ii p3, ii 1, ii c90, ii c92, ii c94, rr b194, uu, uu]) X208 at_103 rfl rfl rfl <| o_new 108 X208 (w1 G) (w2 G) (w3 G) at_105 rfl (by decide) (by decide) ?_
        intro _ h218 b218 X218 _ _ E218 A218 D218 _ _ S218
        have f219 : fd0 Z h218 b218 .null := D218 (Or.inr (w17 G)) fd_0
        have f220 : fd1 Z h218 b218 (.int 0) := D218 (Or.inr (w18 G)) fd_1
        refine oD 109 X218 at_108 rfl rfl <| oc 110 (v := 4) X218 at_109 rfl (by decide) <| nP (aty := .char) 112 4 X218 (w4 G) at_110 rfl (by decide) had_char ?_
        intro _ h221 b221 k221 X221 _ _ E221 V221 A221 C221 _
        have V222 : av1 Z h221 b221 k221 4 [i0, i0, i0, i0] := V221.pad (pad_rep [] (.int (0 : Int32)) 4)
        refine oD 113 X221 at_112 rfl rfl <| oc 114 (v := 0) X221 at_113 rfl (by decide) <| ob 116 (v := 47) X221 at_114 rfl (by decide) <| sC 117 0 47 X221 V222 (by decide) (lb rfl) (by decide) at_116 rfl (by omega) (Or.inr (by omega)) (sx X221 A221 nc0) ?_
        rintro _ _ X223 ⟨_, _, W223⟩ C223 V223
        have := W223.size
        have V224 := V223.as [.int 47, i0, i0, i0] rfl
        refine oD 118 X223 at_117 rfl rfl <| oc 119 (v := 1) X223 at_118 rfl (by decide) <| oi 121 X223 at_119 rfl rfl ?_
        have f226 := A221.wr W223
        refine sC 122 1 c90 X223 V224 (by decide) (lb rfl) (own_nc2 ce91) at_121 rfl (by omega) (Or.inr (by omega)) (sx X223 f226 nc0) ?_
        rintro _ _ X225 ⟨_, _, W225⟩ C225 V225
        have := W225.size
        have V227 := V225.as [.int 47, .int c90, i0, i0] rfl
        refine oD 123 X225 at_122 rfl rfl <| oc 124 (v := 2) X225 at_123 rfl (by decide) <| ob 126 (v := 47) X225 at_124 rfl (by decide) ?_
        have f229 := f226.wr W225
        refine sC 127 2 47 X225 V227 (by decide) (lb rfl) (by decide) at_126 rfl (by omega) (Or.inr (by omega)) (sx X225 f229 nc0) ?_
        rintro _ _ X228 ⟨_, _, W228⟩ C228 V228
        have := W228.size
        have V230 := V228.as [.int 47, .int c90, .int 47, i0] rfl
        refine oD 128 X228 at_127 rfl rfl <| oc 129 (v := 3) X228 at_128 rfl (by decide) <| ob 131 (v := 42) X228 at_129 rfl (by decide) ?_
        have f232 := f229.wr W228
        refine sC 132 3 42 X228 V230 (by decide) (lb rfl) (by decide) at_131 rfl (by omega) (Or.inr (by omega)) (sx X228 f232 nc0) ?_
        rintro _ _ X231 ⟨_, _, W231⟩ C231 V231
        have := W231.size
        have V233 := V231.as [.int 47, .int c90, .int 47, .int 42] rfl
        have f234 := ((((A218.ext E221).wr W223).wr W225).wr W228).wr W231
        have f235 := ((((f220.ext E221).oth W223 (by omega)).oth W225 (by omega)).oth W228 (by omega)).oth W231 (by omega)
        have f236 := ((((f219.ext E221).oth W223 (by omega)).oth W225 (by omega)).oth W228 (by omega)).oth W231 (by omega)
        have f237 := C231.safe (own_lt (by omega)) (C228.safe (own_lt (by omega)) (C225.safe (own_lt (by omega)) (C223.safe (own_lt (by omega)) (C221.safe (own_lt (by omega)) S218))))
        refine mP 135 1 X231 (rm_au98 G f234 f235 f236 V233 (own_sm ce91 hc97) (by omega)) (u1 G) (sS (by omega) f237 all0) at_132 rfl rfl rfl lr (by decide) (aR (by omega) all0) ?_
        rintro _ _ _ _ X238 ⟨_, _, rfl, q241, q242, q243, q244, _, _, _⟩ K238 _ _
        refine oU 137 (l' := #[ii p1, ii p2, ii p3, ii 1, ii c90, ii c92, ii c94, rr b194, rr b218, uu]) X238 at_135 rfl rfl rfl <| og 305 X238 at_137 (by decide) <| oa 307 X238 at_305 rfl rfl ?_
        have f248 := ((((((q211.ext E218).ext E221).wr W223).wr W225).wr W228).wr W231).keep K238
        have f249 := ((((((q212.ext E218).ext E221).oth W223 (by omega)).oth W225 (by omega)).oth W228 (by omega)).oth W231 (by omega)).k1 K238 (by omega)
        have f250 := ((((((q213.ext E218).ext E221).oth W223 (by omega)).oth W225 (by omega)).oth W228 (by omega)).oth W231 (by omega)).k1 K238 (by omega)
        have f251 := ((((((q214.ext E218).ext E221).oth W223 (by omega)).oth W225 (by omega)).oth W228 (by omega)).oth W231 (by omega)).k1 K238 (by omega)
        have f252 := ((((((q215.ext E218).ext E221).wr W223).wr W225).wr W228).wr W231).keep K238
        refine mS 310 0 X238 (rm_au108 G f248 f249 f250 f251 f252) (u28 G) all0 at_307 rfl rfl rfl lr (by decide) all0 ?_
        rintro _ _ _ _ X253 ⟨xa1_254, _, _, _, rfl, q258, q259, q260, q261, q262, q263, q264, _, q266, _, _, _⟩ K253 _ _
        refine oU 312 (l' := #[ii p1, ii p2, ii p3, ii 1, ii c90, ii c92, ii c94, rr b194, rr b218, rr xa1_254]) X253 at_310 rfl rfl rfl <| oa 314 X253 at_312 rfl rfl <| mV 317 0 X253 q258 (rm_au35 G q260) (u29 G) all0 at_314 rfl rfl rfl lr (by decide) all0 ?_
        rintro _ _ _ _ X270 rfl K270 _ _
        refine oa 319 X270 at_317 rfl rfl ?_
        have f271 := q263.k0 K270
        have f272 := q264.k0 K270
        have f273 := (q241.keep K253).keep K270
        have f274 := (q242.k0 K253).k0 K270
        have f275 := (q243.k0 K253).k0 K270
        have f276 := q266.k0 K270
        have f277 := (q244.k0 K253).k0 K270
        have f278 := q262.keep K270
        refine mV 322 0 X270 f278 (rm_au110 G f271 f272 f273 f274 f275 f276 f277 (by decide) (by decide) (by decide) (by decide) (by omega)) (u31 G) all0 at_319 rfl rfl rfl lr (by decide) all0 ?_
        rintro _ _ _ _ X279 rfl K279 _ _
        refine on 325 X279 at_322 rfl ((if0 _ _).trans (feq (by decide)).1) <| oa 327 X279 at_325 rfl rfl ?_
        have f280 := (q259.k0 K270).k0 K279
        have f281 := (q258.keep K270).keep K279
        refine mV 330 0 X279 f281 (rm_au38 G f280) (u32 G) all0 at_327 rfl rfl rfl lr (by decide) all0 ?_
        rintro _ _ _ _ X282 rfl K282 _ _
        refine oG 333 X282 (w184 G) Via.refl ((sg1 G).ext X282.old.2) at_330 rfl ?_
        intro _ X284
        refine o_acmp 336 (same := true) X284 at_333 rfl rfl (decide_eq_true rfl) (by decide) (by decide) <| oa 338 X284 at_336 rfl rfl ?_
        have f285 := ((q261.k0 K270).k0 K279).k0 K282
        have f286 := f281.keep K282
        refine mV 341 0 X284 f286 (rm_au39 G f285) (u33 G) all0 at_338 rfl rfl rfl lr (by decide) all0 ?_
        rintro _ _ _ _ X287 rfl K287 _ _
        refine oa 343 X287 at_341 rfl rfl ?_
        have f288 := ((((f248.keep K253).keep K270).keep K279).keep K282).keep K287
        refine mV 346 0 X287 f288 (rm_au40 G ) (u31 G) all0 at_343 rfl rfl rfl lr (by decide) all0 ?_
        rintro _ _ _ _ X289 rfl _ _ _
        refine on 349 X289 at_346 rfl ((if0 _ _).trans (feq (by decide)).1) <| oc 350 (v := 1) X289 at_349 rfl (by decide) <| og 354 X289 at_350 (by decide) ?_
        exact o_nret (y := (1 : Int32)) (t := .boolean) X289 at_354 rfl (by decide) (by simp) (by decide) (by decide) (fun _ CC => rfl)
  · refine o_iand 3 (v := 2) X0 at_2 rfl hk1 <| oT 4 (l' := #[ii p1, ii p2, ii p3, ii 2, uu, uu, uu, uu, uu, uu]) X0 at_3 rfl rfl <| oI 5 X0 at_4 rfl rfl <| o_ldcI 7 (v := (65535 : Int32)) X0 (w0 G) at_5 rfl <| o_iand 8 (v := (p2 &&& (65535 : Int32))) X0 at_7 rfl rfl ?_
    obtain ⟨c290, ce291⟩ : ∃ z : Int32, (p2 &&& (65535 : Int32)).toUInt32.toUInt16.toUInt32.toInt32 = z := ⟨_, rfl⟩
    refine o_i2c 9 (v := c290) X0 at_8 rfl ce291 <| oS 11 (l' := #[ii p1, ii p2, ii p3, ii 2, ii c290, uu, uu, uu, uu, uu]) X0 at_9 rfl rfl <| oI 12 X0 at_11 rfl rfl <| ob 14 (v := 16) X0 at_12 rfl (by decide) <| o_iushr 15 (v := ((p2.toUInt32 >>> ((16 : Int32) &&& 31).toUInt32).toInt32)) X0 at_14 rfl rfl <| o_ldcI 17 (v := (65535 : Int32)) X0 (w0 G) at_15 rfl <| o_iand 18 (v := (((p2.toUInt32 >>> ((16 : Int32) &&& 31).toUInt32).toInt32) &&& (65535 : Int32))) X0 at_17 rfl rfl ?_
    obtain ⟨c292, ce293⟩ : ∃ z : Int32, (((p2.toUInt32 >>> ((16 : Int32) &&& 31).toUInt32).toInt32) &&& (65535 : Int32)).toUInt32.toUInt16.toUInt32.toInt32 = z := ⟨_, rfl⟩
    refine o_i2c 19 (v := c292) X0 at_18 rfl ce293 <| oS 21 (l' := #[ii p1, ii p2, ii p3, ii 2, ii c290, ii c292, uu, uu, uu, uu]) X0 at_19 rfl rfl <| oI 22 X0 at_21 rfl rfl <| o_ldcI 24 (v := (65535 : Int32)) X0 (w0 G) at_22 rfl <| o_iand 25 (v := (p3 &&& (65535 : Int32))) X0 at_24 rfl rfl ?_
    obtain ⟨c294, ce295⟩ : ∃ z : Int32, (p3 &&& (65535 : Int32)).toUInt32.toUInt16.toUInt32.toInt32 = z := ⟨_, rfl⟩
    refine o_i2c 26 (v := c294) X0 at_25 rfl ce295 <| oS 28 (l' := #[ii p1, ii p2, ii p3, ii 2, ii c290, ii c292, ii c294, uu, uu, uu]) X0 at_26 rfl rfl <| oI 29 X0 at_28 rfl rfl <| oy 69 X0 at_29 (by decide) ((if0 _ _).trans (feq (by decide)).2) <| oI 70 X0 at_69 rfl rfl <| oc 71 (v := 1) X0 at_70 rfl (by decide) <| oY 140 X0 at_71 (by decide) (feq (by decide)).2 <| oI 141 X0 at_140 rfl rfl <| oc 142 (v := 2) X0 at_141 rfl (by decide) <| oN 145 X0 at_142 rfl (teq (by decide)).2 <| oi 147 X0 at_145 rfl rfl <| ob 149 (v := 47) X0 at_147 rfl (by decide) ?_
    by_cases hc296 : c292 = (47 : Int32)
    · refine oN 152 X0 at_149 rfl (teq hc296).2 <| oc 153 (v := 1) X0 at_152 rfl (by decide) ?_
      exact o_nret (y := (1 : Int32)) (t := .boolean) X0 at_153 rfl (by decide) (by simp) (by decide) (by decide) (fun _ CC => rfl)
    · refine oY 154 X0 at_149 (by decide) (feq hc296).2 ?_
      by_cases hc297 : (255 : Int32) < c290
      · refine o_new 157 X0 (w1 G) (w2 G) (w3 G) at_154 rfl (by decide) (by decide) ?_
        intro _ h298 b298 X298 _ _ _ A298 D298 _ _ S298
        have f299 : fd0 Z h298 b298 .null := D298 (Or.inr (w17 G)) fd_0
        have f300 : fd1 Z h298 b298 (.int 0) := D298 (Or.inr (w18 G)) fd_1
        refine oD 158 X298 at_157 rfl rfl <| oc 159 (v := 3) X298 at_158 rfl (by decide) <| nP (aty := .char) 161 3 X298 (w4 G) at_159 rfl (by decide) had_char ?_
        intro _ h301 b301 k301 X301 _ _ E301 V301 A301 C301 _
        have V302 : av1 Z h301 b301 k301 3 [i0, i0, i0] := V301.pad (pad_rep [] (.int (0 : Int32)) 3)
        refine oD 162 X301 at_161 rfl rfl <| oc 163 (v := 0) X301 at_162 rfl (by decide) <| ob 165 (v := 47) X301 at_163 rfl (by decide) <| sC 166 0 47 X301 V302 (by decide) (lb rfl) (by decide) at_165 rfl (by omega) (Or.inr (by omega)) (sx X301 A301 nc0) ?_
        rintro _ _ X303 ⟨_, _, W303⟩ C303 V303
        have := W303.size
        have V304 := V303.as [.int 47, i0, i0] rfl
        refine oD 167 X303 at_166 rfl rfl <| oc 168 (v := 1) X303 at_167 rfl (by decide) <| oi 170 X303 at_168 rfl rfl ?_
        have f306 := A301.wr W303
        refine sC 171 1 c290 X303 V304 (by decide) (lb rfl) (own_nc2 ce291) at_170 rfl (by omega) (Or.inr (by omega)) (sx X303 f306 nc0) ?_
        rintro _ _ X305 ⟨_, _, W305⟩ C305 V305
        have := W305.size
        have V307 := V305.as [.int 47, .int c290, i0] rfl
        refine oD 172 X305 at_171 rfl rfl <| oc 173 (v := 2) X305 at_172 rfl (by decide) <| oi 175 X305 at_173 rfl rfl ?_
        have f309 := f306.wr W305
        refine sC 176 2 c292 X305 V307 (by decide) (lb rfl) (own_nc2 ce293) at_175 rfl (by omega) (Or.inr (by omega)) (sx X305 f309 nc0) ?_
        rintro _ _ X308 ⟨_, _, W308⟩ C308 V308
        have := W308.size
        have V310 := V308.as [.int 47, .int c290, .int c292] rfl
        have f311 := (((A298.ext E301).wr W303).wr W305).wr W308
        have f312 := (((f300.ext E301).oth W303 (by omega)).oth W305 (by omega)).oth W308 (by omega)
        have f313 := (((f299.ext E301).oth W303 (by omega)).oth W305 (by omega)).oth W308 (by omega)
        have f314 := C308.safe (own_lt (by omega)) (C305.safe (own_lt (by omega)) (C303.safe (own_lt (by omega)) (C301.safe (own_lt (by omega)) S298)))
        refine mP 179 1 X308 (rm_au118 G f311 f312 f313 V310 (⟨hc297, own_le16 ce291⟩ : (255 : Int32) < c290 ∧ ¬ (65535 : Int32) < c290) (by omega)) (u1 G) (sS (by omega) f314 all0) at_176 rfl rfl rfl lr (by decide) (aR (by omega) all0) ?_
        rintro _ _ _ _ X315 ⟨_, _, rfl, q318, q319, q320, q321, q322, _, _⟩ _ _ _
        refine oU 181 (l' := #[ii p1, ii p2, ii p3, ii 2, ii c290, ii c292, ii c294, rr b298, uu, uu]) X315 at_179 rfl rfl rfl <| o_new 184 X315 (w1 G) (w2 G) (w3 G) at_181 rfl (by decide) (by decide) ?_
        intro _ h325 b325 X325 _ _ E325 A325 D325 _ _ S325
        have f326 : fd0 Z h325 b325 .null := D325 (Or.inr (w17 G)) fd_0
        have f327 : fd1 Z h325 b325 (.int 0) := D325 (Or.inr (w18 G)) fd_1
        refine oD 185 X325 at_184 rfl rfl <| oc 186 (v := 5) X325 at_185 rfl (by decide) <| nP (aty := .char) 188 5 X325 (w4 G) at_186 rfl (by decide) had_char ?_
        intro _ h328 b328 k328 X328 _ _ E328 V328 A328 C328 _
        have V329 : av1 Z h328 b328 k328 5 [i0, i0, i0, i0, i0] := V328.pad (pad_rep [] (.int (0 : Int32)) 5)
        refine oD 189 X328 at_188 rfl rfl <| oc 190 (v := 0) X328 at_189 rfl (by decide) <| ob 192 (v := 47) X328 at_190 rfl (by decide) <| sC 193 0 47 X328 V329 (by decide) (lb rfl) (by decide) at_192 rfl (by omega) (Or.inr (by omega)) (sx X328 A328 nc0) ?_
        rintro _ _ X330 ⟨_, _, W330⟩ C330 V330
        have := W330.size
        have V331 := V330.as [.int 47, i0, i0, i0, i0] rfl
        refine oD 194 X330 at_193 rfl rfl <| oc 195 (v := 1) X330 at_194 rfl (by decide) <| oi 197 X330 at_195 rfl rfl ?_
        have f333 := A328.wr W330
        refine sC 198 1 c290 X330 V331 (by decide) (lb rfl) (own_nc2 ce291) at_197 rfl (by omega) (Or.inr (by omega)) (sx X330 f333 nc0) ?_
        rintro _ _ X332 ⟨_, _, W332⟩ C332 V332
        have := W332.size
        have V334 := V332.as [.int 47, .int c290, i0, i0, i0] rfl
        refine oD 199 X332 at_198 rfl rfl <| oc 200 (v := 2) X332 at_199 rfl (by decide) <| oi 202 X332 at_200 rfl rfl ?_
        have f336 := f333.wr W332
        refine sC 203 2 c292 X332 V334 (by decide) (lb rfl) (own_nc2 ce293) at_202 rfl (by omega) (Or.inr (by omega)) (sx X332 f336 nc0) ?_
        rintro _ _ X335 ⟨_, _, W335⟩ C335 V335
        have := W335.size
        have V337 := V335.as [.int 47, .int c290, .int c292, i0, i0] rfl
        refine oD 204 X335 at_203 rfl rfl <| oc 205 (v := 3) X335 at_204 rfl (by decide) <| ob 207 (v := 47) X335 at_205 rfl (by decide) ?_
        have f339 := f336.wr W335
        refine sC 208 3 47 X335 V337 (by decide) (lb rfl) (by decide) at_207 rfl (by omega) (Or.inr (by omega)) (sx X335 f339 nc0) ?_
        rintro _ _ X338 ⟨_, _, W338⟩ C338 V338
        have := W338.size
        have V340 := V338.as [.int 47, .int c290, .int c292, .int 47, i0] rfl
        refine oD 209 X338 at_208 rfl rfl <| oc 210 (v := 4) X338 at_209 rfl (by decide) <| ob 212 (v := 42) X338 at_210 rfl (by decide) ?_
        have f342 := f339.wr W338
        refine sC 213 4 42 X338 V340 (by decide) (lb rfl) (by decide) at_212 rfl (by omega) (Or.inr (by omega)) (sx X338 f342 nc0) ?_
        rintro _ _ X341 ⟨_, _, W341⟩ C341 V341
        have := W341.size
        have V343 := V341.as [.int 47, .int c290, .int c292, .int 47, .int 42] rfl
        have f344 := (((((A325.ext E328).wr W330).wr W332).wr W335).wr W338).wr W341
        have f345 := (((((f327.ext E328).oth W330 (by omega)).oth W332 (by omega)).oth W335 (by omega)).oth W338 (by omega)).oth W341 (by omega)
        have f346 := (((((f326.ext E328).oth W330 (by omega)).oth W332 (by omega)).oth W335 (by omega)).oth W338 (by omega)).oth W341 (by omega)
        have f347 := C341.safe (own_lt (by omega)) (C338.safe (own_lt (by omega)) (C335.safe (own_lt (by omega)) (C332.safe (own_lt (by omega)) (C330.safe (own_lt (by omega)) (C328.safe (own_lt (by omega)) S325)))))
        refine mP 216 1 X341 (rm_au126 G f344 f345 f346 V343 (⟨hc297, own_le16 ce291⟩ : (255 : Int32) < c290 ∧ ¬ (65535 : Int32) < c290) (by omega)) (u1 G) (sS (by omega) f347 all0) at_213 rfl rfl rfl lr (by decide) (aR (by omega) all0) ?_
        rintro _ _ _ _ X348 ⟨_, _, rfl, q351, q352, q353, q354, _, _, _⟩ K348 _ _
        refine oU 218 (l' := #[ii p1, ii p2, ii p3, ii 2, ii c290, ii c292, ii c294, rr b298, rr b325, uu]) X348 at_216 rfl rfl rfl <| og 305 X348 at_218 (by decide) <| oa 307 X348 at_305 rfl rfl ?_
        have f358 := (((((((q318.ext E325).ext E328).wr W330).wr W332).wr W335).wr W338).wr W341).keep K348
        have f359 := (((((((q319.ext E325).ext E328).oth W330 (by omega)).oth W332 (by omega)).oth W335 (by omega)).oth W338 (by omega)).oth W341 (by omega)).k1 K348 (by omega)
        have f360 := (((((((q320.ext E325).ext E328).oth W330 (by omega)).oth W332 (by omega)).oth W335 (by omega)).oth W338 (by omega)).oth W341 (by omega)).k1 K348 (by omega)
        have f361 := (((((((q321.ext E325).ext E328).oth W330 (by omega)).oth W332 (by omega)).oth W335 (by omega)).oth W338 (by omega)).oth W341 (by omega)).k1 K348 (by omega)
        have f362 := (((((((q322.ext E325).ext E328).wr W330).wr W332).wr W335).wr W338).wr W341).keep K348
        refine mS 310 0 X348 (rm_au143 G f358 f359 f360 f361 f362) (u28 G) all0 at_307 rfl rfl rfl lr (by decide) all0 ?_
        rintro _ _ _ _ X363 ⟨xa1_364, _, _, _, rfl, q368, q369, q370, q371, q372, q373, q374, _, q376, _, _, _⟩ K363 _ _
        refine oU 312 (l' := #[ii p1, ii p2, ii p3, ii 2, ii c290, ii c292, ii c294, rr b298, rr b325, rr xa1_364]) X363 at_310 rfl rfl rfl <| oa 314 X363 at_312 rfl rfl <| mV 317 0 X363 q368 (rm_au35 G q370) (u29 G) all0 at_314 rfl rfl rfl lr (by decide) all0 ?_
        rintro _ _ _ _ X380 rfl K380 _ _
        refine oa 319 X380 at_317 rfl rfl ?_
        have f381 := q373.k0 K380
        have f382 := q374.k0 K380
        have f383 := (q351.keep K363).keep K380
        have f384 := (q352.k0 K363).k0 K380
        have f385 := (q353.k0 K363).k0 K380
        have f386 := q376.k0 K380
        have f387 := (q354.k0 K363).k0 K380
        have f388 := q372.keep K380
        refine mV 322 0 X380 f388 (rm_au145 G f381 f382 f383 f384 f385 f386 f387 (by decide) (by omega)) (u31 G) all0 at_319 rfl rfl rfl lr (by decide) all0 ?_
        rintro _ _ _ _ X389 rfl K389 _ _
        refine on 325 X389 at_322 rfl ((if0 _ _).trans (feq (by decide)).1) <| oa 327 X389 at_325 rfl rfl ?_
        have f390 := (q369.k0 K380).k0 K389
        have f391 := (q368.keep K380).keep K389
        refine mV 330 0 X389 f391 (rm_au38 G f390) (u32 G) all0 at_327 rfl rfl rfl lr (by decide) all0 ?_
        rintro _ _ _ _ X392 rfl K392 _ _
        refine oG 333 X392 (w184 G) Via.refl ((sg1 G).ext X392.old.2) at_330 rfl ?_
        intro _ X394
        refine o_acmp 336 (same := true) X394 at_333 rfl rfl (decide_eq_true rfl) (by decide) (by decide) <| oa 338 X394 at_336 rfl rfl ?_
        have f395 := ((q371.k0 K380).k0 K389).k0 K392
        have f396 := f391.keep K392
        refine mV 341 0 X394 f396 (rm_au39 G f395) (u33 G) all0 at_338 rfl rfl rfl lr (by decide) all0 ?_
        rintro _ _ _ _ X397 rfl K397 _ _
        refine oa 343 X397 at_341 rfl rfl ?_
        have f398 := ((((f358.keep K363).keep K380).keep K389).keep K392).keep K397
        refine mV 346 0 X397 f398 (rm_au40 G ) (u31 G) all0 at_343 rfl rfl rfl lr (by decide) all0 ?_
        rintro _ _ _ _ X399 rfl _ _ _
        refine on 349 X399 at_346 rfl ((if0 _ _).trans (feq (by decide)).1) <| oc 350 (v := 1) X399 at_349 rfl (by decide) <| og 354 X399 at_350 (by decide) ?_
        exact o_nret (y := (1 : Int32)) (t := .boolean) X399 at_354 rfl (by decide) (by simp) (by decide) (by decide) (fun _ CC => rfl)
      · by_cases hc400 : (255 : Int32) < c292
        · refine o_new 157 X0 (w1 G) (w2 G) (w3 G) at_154 rfl (by decide) (by decide) ?_
          intro _ h401 b401 X401 _ _ _ A401 D401 _ _ S401
          have f402 : fd0 Z h401 b401 .null := D401 (Or.inr (w17 G)) fd_0
          have f403 : fd1 Z h401 b401 (.int 0) := D401 (Or.inr (w18 G)) fd_1
          refine oD 158 X401 at_157 rfl rfl <| oc 159 (v := 3) X401 at_158 rfl (by decide) <| nP (aty := .char) 161 3 X401 (w4 G) at_159 rfl (by decide) had_char ?_
          intro _ h404 b404 k404 X404 _ _ E404 V404 A404 C404 _
          have V405 : av1 Z h404 b404 k404 3 [i0, i0, i0] := V404.pad (pad_rep [] (.int (0 : Int32)) 3)
          refine oD 162 X404 at_161 rfl rfl <| oc 163 (v := 0) X404 at_162 rfl (by decide) <| ob 165 (v := 47) X404 at_163 rfl (by decide) <| sC 166 0 47 X404 V405 (by decide) (lb rfl) (by decide) at_165 rfl (by omega) (Or.inr (by omega)) (sx X404 A404 nc0) ?_
          rintro _ _ X406 ⟨_, _, W406⟩ C406 V406
          have := W406.size
          have V407 := V406.as [.int 47, i0, i0] rfl
          refine oD 167 X406 at_166 rfl rfl <| oc 168 (v := 1) X406 at_167 rfl (by decide) <| oi 170 X406 at_168 rfl rfl ?_
          have f409 := A404.wr W406
          refine sC 171 1 c290 X406 V407 (by decide) (lb rfl) (own_nc2 ce291) at_170 rfl (by omega) (Or.inr (by omega)) (sx X406 f409 nc0) ?_
          rintro _ _ X408 ⟨_, _, W408⟩ C408 V408
          have := W408.size
          have V410 := V408.as [.int 47, .int c290, i0] rfl
          refine oD 172 X408 at_171 rfl rfl <| oc 173 (v := 2) X408 at_172 rfl (by decide) <| oi 175 X408 at_173 rfl rfl ?_
          have f412 := f409.wr W408
          refine sC 176 2 c292 X408 V410 (by decide) (lb rfl) (own_nc2 ce293) at_175 rfl (by omega) (Or.inr (by omega)) (sx X408 f412 nc0) ?_
          rintro _ _ X411 ⟨_, _, W411⟩ C411 V411
          have := W411.size
          have V413 := V411.as [.int 47, .int c290, .int c292] rfl
          have f414 := (((A401.ext E404).wr W406).wr W408).wr W411
          have f415 := (((f403.ext E404).oth W406 (by omega)).oth W408 (by omega)).oth W411 (by omega)
          have f416 := (((f402.ext E404).oth W406 (by omega)).oth W408 (by omega)).oth W411 (by omega)
          have f417 := C411.safe (own_lt (by omega)) (C408.safe (own_lt (by omega)) (C406.safe (own_lt (by omega)) (C404.safe (own_lt (by omega)) S401)))
          refine mP 179 1 X411 (rm_au150 G f414 f415 f416 V413 (own_sm ce291 hc297) (⟨hc400, own_le16 ce293⟩ : (255 : Int32) < c292 ∧ ¬ (65535 : Int32) < c292) (by omega)) (u1 G) (sS (by omega) f417 all0) at_176 rfl rfl rfl lr (by decide) (aR (by omega) all0) ?_
          rintro _ _ _ _ X418 ⟨_, _, rfl, q421, q422, q423, q424, q425, _, _⟩ _ _ _
          refine oU 181 (l' := #[ii p1, ii p2, ii p3, ii 2, ii c290, ii c292, ii c294, rr b401, uu, uu]) X418 at_179 rfl rfl rfl <| o_new 184 X418 (w1 G) (w2 G) (w3 G) at_181 rfl (by decide) (by decide) ?_
          intro _ h428 b428 X428 _ _ E428 A428 D428 _ _ S428
          have f429 : fd0 Z h428 b428 .null := D428 (Or.inr (w17 G)) fd_0
          have f430 : fd1 Z h428 b428 (.int 0) := D428 (Or.inr (w18 G)) fd_1
          refine oD 185 X428 at_184 rfl rfl <| oc 186 (v := 5) X428 at_185 rfl (by decide) <| nP (aty := .char) 188 5 X428 (w4 G) at_186 rfl (by decide) had_char ?_
          intro _ h431 b431 k431 X431 _ _ E431 V431 A431 C431 _
          have V432 : av1 Z h431 b431 k431 5 [i0, i0, i0, i0, i0] := V431.pad (pad_rep [] (.int (0 : Int32)) 5)
          refine oD 189 X431 at_188 rfl rfl <| oc 190 (v := 0) X431 at_189 rfl (by decide) <| ob 192 (v := 47) X431 at_190 rfl (by decide) <| sC 193 0 47 X431 V432 (by decide) (lb rfl) (by decide) at_192 rfl (by omega) (Or.inr (by omega)) (sx X431 A431 nc0) ?_
          rintro _ _ X433 ⟨_, _, W433⟩ C433 V433
          have := W433.size
          have V434 := V433.as [.int 47, i0, i0, i0, i0] rfl
          refine oD 194 X433 at_193 rfl rfl <| oc 195 (v := 1) X433 at_194 rfl (by decide) <| oi 197 X433 at_195 rfl rfl ?_
          have f436 := A431.wr W433
          refine sC 198 1 c290 X433 V434 (by decide) (lb rfl) (own_nc2 ce291) at_197 rfl (by omega) (Or.inr (by omega)) (sx X433 f436 nc0) ?_
          rintro _ _ X435 ⟨_, _, W435⟩ C435 V435
          have := W435.size
          have V437 := V435.as [.int 47, .int c290, i0, i0, i0] rfl
          refine oD 199 X435 at_198 rfl rfl <| oc 200 (v := 2) X435 at_199 rfl (by decide) <| oi 202 X435 at_200 rfl rfl ?_
          have f439 := f436.wr W435
          refine sC 203 2 c292 X435 V437 (by decide) (lb rfl) (own_nc2 ce293) at_202 rfl (by omega) (Or.inr (by omega)) (sx X435 f439 nc0) ?_
          rintro _ _ X438 ⟨_, _, W438⟩ C438 V438
          have := W438.size
          have V440 := V438.as [.int 47, .int c290, .int c292, i0, i0] rfl
          refine oD 204 X438 at_203 rfl rfl <| oc 205 (v := 3) X438 at_204 rfl (by decide) <| ob 207 (v := 47) X438 at_205 rfl (by decide) ?_
          have f442 := f439.wr W438
          refine sC 208 3 47 X438 V440 (by decide) (lb rfl) (by decide) at_207 rfl (by omega) (Or.inr (by omega)) (sx X438 f442 nc0) ?_
          rintro _ _ X441 ⟨_, _, W441⟩ C441 V441
          have := W441.size
          have V443 := V441.as [.int 47, .int c290, .int c292, .int 47, i0] rfl
          refine oD 209 X441 at_208 rfl rfl <| oc 210 (v := 4) X441 at_209 rfl (by decide) <| ob 212 (v := 42) X441 at_210 rfl (by decide) ?_
          have f445 := f442.wr W441
          refine sC 213 4 42 X441 V443 (by decide) (lb rfl) (by decide) at_212 rfl (by omega) (Or.inr (by omega)) (sx X441 f445 nc0) ?_
          rintro _ _ X444 ⟨_, _, W444⟩ C444 V444
          have := W444.size
          have V446 := V444.as [.int 47, .int c290, .int c292, .int 47, .int 42] rfl
          have f447 := (((((A428.ext E431).wr W433).wr W435).wr W438).wr W441).wr W444
          have f448 := (((((f430.ext E431).oth W433 (by omega)).oth W435 (by omega)).oth W438 (by omega)).oth W441 (by omega)).oth W444 (by omega)
          have f449 := (((((f429.ext E431).oth W433 (by omega)).oth W435 (by omega)).oth W438 (by omega)).oth W441 (by omega)).oth W444 (by omega)
          have f450 := C444.safe (own_lt (by omega)) (C441.safe (own_lt (by omega)) (C438.safe (own_lt (by omega)) (C435.safe (own_lt (by omega)) (C433.safe (own_lt (by omega)) (C431.safe (own_lt (by omega)) S428)))))
          refine mP 216 1 X444 (rm_au155 G f447 f448 f449 V446 (own_sm ce291 hc297) (⟨hc400, own_le16 ce293⟩ : (255 : Int32) < c292 ∧ ¬ (65535 : Int32) < c292) (by omega)) (u1 G) (sS (by omega) f450 all0) at_213 rfl rfl rfl lr (by decide) (aR (by omega) all0) ?_
          rintro _ _ _ _ X451 ⟨_, _, rfl, q454, q455, q456, q457, _, _, _⟩ K451 _ _
          refine oU 218 (l' := #[ii p1, ii p2, ii p3, ii 2, ii c290, ii c292, ii c294, rr b401, rr b428, uu]) X451 at_216 rfl rfl rfl <| og 305 X451 at_218 (by decide) <| oa 307 X451 at_305 rfl rfl ?_
          have f461 := (((((((q421.ext E428).ext E431).wr W433).wr W435).wr W438).wr W441).wr W444).keep K451
          have f462 := (((((((q422.ext E428).ext E431).oth W433 (by omega)).oth W435 (by omega)).oth W438 (by omega)).oth W441 (by omega)).oth W444 (by omega)).k1 K451 (by omega)
          have f463 := (((((((q423.ext E428).ext E431).oth W433 (by omega)).oth W435 (by omega)).oth W438 (by omega)).oth W441 (by omega)).oth W444 (by omega)).k1 K451 (by omega)
          have f464 := (((((((q424.ext E428).ext E431).oth W433 (by omega)).oth W435 (by omega)).oth W438 (by omega)).oth W441 (by omega)).oth W444 (by omega)).k1 K451 (by omega)
          have f465 := (((((((q425.ext E428).ext E431).wr W433).wr W435).wr W438).wr W441).wr W444).keep K451
          refine mS 310 0 X451 (rm_au143 G f461 f462 f463 f464 f465) (u28 G) all0 at_307 rfl rfl rfl lr (by decide) all0 ?_
          rintro _ _ _ _ X466 ⟨xa1_467, _, _, _, rfl, q471, q472, q473, q474, q475, q476, q477, _, q479, _, _, _⟩ K466 _ _
          refine oU 312 (l' := #[ii p1, ii p2, ii p3, ii 2, ii c290, ii c292, ii c294, rr b401, rr b428, rr xa1_467]) X466 at_310 rfl rfl rfl <| oa 314 X466 at_312 rfl rfl <| mV 317 0 X466 q471 (rm_au35 G q473) (u29 G) all0 at_314 rfl rfl rfl lr (by decide) all0 ?_
          rintro _ _ _ _ X483 rfl K483 _ _
          refine oa 319 X483 at_317 rfl rfl ?_
          have f484 := q476.k0 K483
          have f485 := q477.k0 K483
          have f486 := (q454.keep K466).keep K483
          have f487 := (q455.k0 K466).k0 K483
          have f488 := (q456.k0 K466).k0 K483
          have f489 := q479.k0 K483
          have f490 := (q457.k0 K466).k0 K483
          have f491 := q475.keep K483
          refine mV 322 0 X483 f491 (rm_au145 G f484 f485 f486 f487 f488 f489 f490 (by decide) (by omega)) (u31 G) all0 at_319 rfl rfl rfl lr (by decide) all0 ?_
          rintro _ _ _ _ X492 rfl K492 _ _
          refine on 325 X492 at_322 rfl ((if0 _ _).trans (feq (by decide)).1) <| oa 327 X492 at_325 rfl rfl ?_
          have f493 := (q472.k0 K483).k0 K492
          have f494 := (q471.keep K483).keep K492
          refine mV 330 0 X492 f494 (rm_au38 G f493) (u32 G) all0 at_327 rfl rfl rfl lr (by decide) all0 ?_
          rintro _ _ _ _ X495 rfl K495 _ _
          refine oG 333 X495 (w184 G) Via.refl ((sg1 G).ext X495.old.2) at_330 rfl ?_
          intro _ X497
          refine o_acmp 336 (same := true) X497 at_333 rfl rfl (decide_eq_true rfl) (by decide) (by decide) <| oa 338 X497 at_336 rfl rfl ?_
          have f498 := ((q474.k0 K483).k0 K492).k0 K495
          have f499 := f494.keep K495
          refine mV 341 0 X497 f499 (rm_au39 G f498) (u33 G) all0 at_338 rfl rfl rfl lr (by decide) all0 ?_
          rintro _ _ _ _ X500 rfl K500 _ _
          refine oa 343 X500 at_341 rfl rfl ?_
          have f501 := ((((f461.keep K466).keep K483).keep K492).keep K495).keep K500
          refine mV 346 0 X500 f501 (rm_au40 G ) (u31 G) all0 at_343 rfl rfl rfl lr (by decide) all0 ?_
          rintro _ _ _ _ X502 rfl _ _ _
          refine on 349 X502 at_346 rfl ((if0 _ _).trans (feq (by decide)).1) <| oc 350 (v := 1) X502 at_349 rfl (by decide) <| og 354 X502 at_350 (by decide) ?_
          exact o_nret (y := (1 : Int32)) (t := .boolean) X502 at_354 rfl (by decide) (by simp) (by decide) (by decide) (fun _ CC => rfl)
        · refine o_new 157 X0 (w1 G) (w2 G) (w3 G) at_154 rfl (by decide) (by decide) ?_
          intro _ h503 b503 X503 _ _ _ A503 D503 _ _ S503
          have f504 : fd0 Z h503 b503 .null := D503 (Or.inr (w17 G)) fd_0
          have f505 : fd1 Z h503 b503 (.int 0) := D503 (Or.inr (w18 G)) fd_1
          refine oD 158 X503 at_157 rfl rfl <| oc 159 (v := 3) X503 at_158 rfl (by decide) <| nP (aty := .char) 161 3 X503 (w4 G) at_159 rfl (by decide) had_char ?_
          intro _ h506 b506 k506 X506 _ _ E506 V506 A506 C506 _
          have V507 : av1 Z h506 b506 k506 3 [i0, i0, i0] := V506.pad (pad_rep [] (.int (0 : Int32)) 3)
          refine oD 162 X506 at_161 rfl rfl <| oc 163 (v := 0) X506 at_162 rfl (by decide) <| ob 165 (v := 47) X506 at_163 rfl (by decide) <| sC 166 0 47 X506 V507 (by decide) (lb rfl) (by decide) at_165 rfl (by omega) (Or.inr (by omega)) (sx X506 A506 nc0) ?_
          rintro _ _ X508 ⟨_, _, W508⟩ C508 V508
          have := W508.size
          have V509 := V508.as [.int 47, i0, i0] rfl
          refine oD 167 X508 at_166 rfl rfl <| oc 168 (v := 1) X508 at_167 rfl (by decide) <| oi 170 X508 at_168 rfl rfl ?_
          have f511 := A506.wr W508
          refine sC 171 1 c290 X508 V509 (by decide) (lb rfl) (own_nc2 ce291) at_170 rfl (by omega) (Or.inr (by omega)) (sx X508 f511 nc0) ?_
          rintro _ _ X510 ⟨_, _, W510⟩ C510 V510
          have := W510.size
          have V512 := V510.as [.int 47, .int c290, i0] rfl
          refine oD 172 X510 at_171 rfl rfl <| oc 173 (v := 2) X510 at_172 rfl (by decide) <| oi 175 X510 at_173 rfl rfl ?_
          have f514 := f511.wr W510
          refine sC 176 2 c292 X510 V512 (by decide) (lb rfl) (own_nc2 ce293) at_175 rfl (by omega) (Or.inr (by omega)) (sx X510 f514 nc0) ?_
          rintro _ _ X513 ⟨_, _, W513⟩ C513 V513
          have := W513.size
          have V515 := V513.as [.int 47, .int c290, .int c292] rfl
          have f516 := (((A503.ext E506).wr W508).wr W510).wr W513
          have f517 := (((f505.ext E506).oth W508 (by omega)).oth W510 (by omega)).oth W513 (by omega)
          have f518 := (((f504.ext E506).oth W508 (by omega)).oth W510 (by omega)).oth W513 (by omega)
          have f519 := C513.safe (own_lt (by omega)) (C510.safe (own_lt (by omega)) (C508.safe (own_lt (by omega)) (C506.safe (own_lt (by omega)) S503)))
          refine mP 179 1 X513 (rm_au160 G f516 f517 f518 V515 (own_sm ce291 hc297) (own_sm ce293 hc400) (by omega)) (u1 G) (sS (by omega) f519 all0) at_176 rfl rfl rfl lr (by decide) (aR (by omega) all0) ?_
          rintro _ _ _ _ X520 ⟨_, _, rfl, q523, q524, q525, q526, q527, _, _⟩ _ _ _
          refine oU 181 (l' := #[ii p1, ii p2, ii p3, ii 2, ii c290, ii c292, ii c294, rr b503, uu, uu]) X520 at_179 rfl rfl rfl <| o_new 184 X520 (w1 G) (w2 G) (w3 G) at_181 rfl (by decide) (by decide) ?_
          intro _ h530 b530 X530 _ _ E530 A530 D530 _ _ S530
          have f531 : fd0 Z h530 b530 .null := D530 (Or.inr (w17 G)) fd_0
          have f532 : fd1 Z h530 b530 (.int 0) := D530 (Or.inr (w18 G)) fd_1
          refine oD 185 X530 at_184 rfl rfl <| oc 186 (v := 5) X530 at_185 rfl (by decide) <| nP (aty := .char) 188 5 X530 (w4 G) at_186 rfl (by decide) had_char ?_
          intro _ h533 b533 k533 X533 _ _ E533 V533 A533 C533 _
          have V534 : av1 Z h533 b533 k533 5 [i0, i0, i0, i0, i0] := V533.pad (pad_rep [] (.int (0 : Int32)) 5)
          refine oD 189 X533 at_188 rfl rfl <| oc 190 (v := 0) X533 at_189 rfl (by decide) <| ob 192 (v := 47) X533 at_190 rfl (by decide) <| sC 193 0 47 X533 V534 (by decide) (lb rfl) (by decide) at_192 rfl (by omega) (Or.inr (by omega)) (sx X533 A533 nc0) ?_
          rintro _ _ X535 ⟨_, _, W535⟩ C535 V535
          have := W535.size
          have V536 := V535.as [.int 47, i0, i0, i0, i0] rfl
          refine oD 194 X535 at_193 rfl rfl <| oc 195 (v := 1) X535 at_194 rfl (by decide) <| oi 197 X535 at_195 rfl rfl ?_
          have f538 := A533.wr W535
          refine sC 198 1 c290 X535 V536 (by decide) (lb rfl) (own_nc2 ce291) at_197 rfl (by omega) (Or.inr (by omega)) (sx X535 f538 nc0) ?_
          rintro _ _ X537 ⟨_, _, W537⟩ C537 V537
          have := W537.size
          have V539 := V537.as [.int 47, .int c290, i0, i0, i0] rfl
          refine oD 199 X537 at_198 rfl rfl <| oc 200 (v := 2) X537 at_199 rfl (by decide) <| oi 202 X537 at_200 rfl rfl ?_
          have f541 := f538.wr W537
          refine sC 203 2 c292 X537 V539 (by decide) (lb rfl) (own_nc2 ce293) at_202 rfl (by omega) (Or.inr (by omega)) (sx X537 f541 nc0) ?_
          rintro _ _ X540 ⟨_, _, W540⟩ C540 V540
          have := W540.size
          have V542 := V540.as [.int 47, .int c290, .int c292, i0, i0] rfl
          refine oD 204 X540 at_203 rfl rfl <| oc 205 (v := 3) X540 at_204 rfl (by decide) <| ob 207 (v := 47) X540 at_205 rfl (by decide) ?_
          have f544 := f541.wr W540
          refine sC 208 3 47 X540 V542 (by decide) (lb rfl) (by decide) at_207 rfl (by omega) (Or.inr (by omega)) (sx X540 f544 nc0) ?_
          rintro _ _ X543 ⟨_, _, W543⟩ C543 V543
          have := W543.size
          have V545 := V543.as [.int 47, .int c290, .int c292, .int 47, i0] rfl
          refine oD 209 X543 at_208 rfl rfl <| oc 210 (v := 4) X543 at_209 rfl (by decide) <| ob 212 (v := 42) X543 at_210 rfl (by decide) ?_
          have f547 := f544.wr W543
          refine sC 213 4 42 X543 V545 (by decide) (lb rfl) (by decide) at_212 rfl (by omega) (Or.inr (by omega)) (sx X543 f547 nc0) ?_
          rintro _ _ X546 ⟨_, _, W546⟩ C546 V546
          have := W546.size
          have V548 := V546.as [.int 47, .int c290, .int c292, .int 47, .int 42] rfl
          have f549 := (((((A530.ext E533).wr W535).wr W537).wr W540).wr W543).wr W546
          have f550 := (((((f532.ext E533).oth W535 (by omega)).oth W537 (by omega)).oth W540 (by omega)).oth W543 (by omega)).oth W546 (by omega)
          have f551 := (((((f531.ext E533).oth W535 (by omega)).oth W537 (by omega)).oth W540 (by omega)).oth W543 (by omega)).oth W546 (by omega)
          have f552 := C546.safe (own_lt (by omega)) (C543.safe (own_lt (by omega)) (C540.safe (own_lt (by omega)) (C537.safe (own_lt (by omega)) (C535.safe (own_lt (by omega)) (C533.safe (own_lt (by omega)) S530)))))
          refine mP 216 1 X546 (rm_au165 G f549 f550 f551 V548 (own_sm ce291 hc297) (own_sm ce293 hc400) (by omega)) (u1 G) (sS (by omega) f552 all0) at_213 rfl rfl rfl lr (by decide) (aR (by omega) all0) ?_
          rintro _ _ _ _ X553 ⟨_, _, rfl, q556, q557, q558, q559, _, _, _⟩ K553 _ _
          refine oU 218 (l' := #[ii p1, ii p2, ii p3, ii 2, ii c290, ii c292, ii c294, rr b503, rr b530, uu]) X553 at_216 rfl rfl rfl <| og 305 X553 at_218 (by decide) <| oa 307 X553 at_305 rfl rfl ?_
          have f563 := (((((((q523.ext E530).ext E533).wr W535).wr W537).wr W540).wr W543).wr W546).keep K553
          have f564 := (((((((q524.ext E530).ext E533).oth W535 (by omega)).oth W537 (by omega)).oth W540 (by omega)).oth W543 (by omega)).oth W546 (by omega)).k1 K553 (by omega)
          have f565 := (((((((q525.ext E530).ext E533).oth W535 (by omega)).oth W537 (by omega)).oth W540 (by omega)).oth W543 (by omega)).oth W546 (by omega)).k1 K553 (by omega)
          have f566 := (((((((q526.ext E530).ext E533).oth W535 (by omega)).oth W537 (by omega)).oth W540 (by omega)).oth W543 (by omega)).oth W546 (by omega)).k1 K553 (by omega)
          have f567 := (((((((q527.ext E530).ext E533).wr W535).wr W537).wr W540).wr W543).wr W546).keep K553
          refine mS 310 0 X553 (rm_au180 G f563 f564 f565 f566 f567) (u28 G) all0 at_307 rfl rfl rfl lr (by decide) all0 ?_
          rintro _ _ _ _ X568 ⟨xa1_569, _, _, _, rfl, q573, q574, q575, q576, q577, q578, q579, _, q581, _, _, _⟩ K568 _ _
          refine oU 312 (l' := #[ii p1, ii p2, ii p3, ii 2, ii c290, ii c292, ii c294, rr b503, rr b530, rr xa1_569]) X568 at_310 rfl rfl rfl <| oa 314 X568 at_312 rfl rfl <| mV 317 0 X568 q573 (rm_au35 G q575) (u29 G) all0 at_314 rfl rfl rfl lr (by decide) all0 ?_
          rintro _ _ _ _ X585 rfl K585 _ _
          refine oa 319 X585 at_317 rfl rfl ?_
          have f586 := q578.k0 K585
          have f587 := q579.k0 K585
          have f588 := (q556.keep K568).keep K585
          have f589 := (q557.k0 K568).k0 K585
          have f590 := (q558.k0 K568).k0 K585
          have f591 := q581.k0 K585
          have f592 := (q559.k0 K568).k0 K585
          have f593 := q577.keep K585
          refine mV 322 0 X585 f593 (rm_au182 G f586 f587 f588 f589 f590 f591 f592 (by decide) (by decide) (by decide) (by decide) (by omega)) (u31 G) all0 at_319 rfl rfl rfl lr (by decide) all0 ?_
          rintro _ _ _ _ X594 rfl K594 _ _
          refine on 325 X594 at_322 rfl ((if0 _ _).trans (feq (by decide)).1) <| oa 327 X594 at_325 rfl rfl ?_
          have f595 := (q574.k0 K585).k0 K594
          have f596 := (q573.keep K585).keep K594
          refine mV 330 0 X594 f596 (rm_au38 G f595) (u32 G) all0 at_327 rfl rfl rfl lr (by decide) all0 ?_
          rintro _ _ _ _ X597 rfl K597 _ _
          refine oG 333 X597 (w184 G) Via.refl ((sg1 G).ext X597.old.2) at_330 rfl ?_
          intro _ X599
          refine o_acmp 336 (same := true) X599 at_333 rfl rfl (decide_eq_true rfl) (by decide) (by decide) <| oa 338 X599 at_336 rfl rfl ?_
          have f600 := ((q576.k0 K585).k0 K594).k0 K597
          have f601 := f596.keep K597
          refine mV 341 0 X599 f601 (rm_au39 G f600) (u33 G) all0 at_338 rfl rfl rfl lr (by decide) all0 ?_
          rintro _ _ _ _ X602 rfl K602 _ _
          refine oa 343 X602 at_341 rfl rfl ?_
          have f603 := ((((f563.keep K568).keep K585).keep K594).keep K597).keep K602
          refine mV 346 0 X602 f603 (rm_au40 G ) (u31 G) all0 at_343 rfl rfl rfl lr (by decide) all0 ?_
          rintro _ _ _ _ X604 rfl _ _ _
          refine on 349 X604 at_346 rfl ((if0 _ _).trans (feq (by decide)).1) <| oc 350 (v := 1) X604 at_349 rfl (by decide) <| og 354 X604 at_350 (by decide) ?_
          exact o_nret (y := (1 : Int32)) (t := .boolean) X604 at_354 rfl (by decide) (by simp) (by decide) (by decide) (fun _ CC => rfl)
  · refine o_iand 3 (v := 3) X0 at_2 rfl hk1 <| oT 4 (l' := #[ii p1, ii p2, ii p3, ii 3, uu, uu, uu, uu, uu, uu]) X0 at_3 rfl rfl <| oI 5 X0 at_4 rfl rfl <| o_ldcI 7 (v := (65535 : Int32)) X0 (w0 G) at_5 rfl <| o_iand 8 (v := (p2 &&& (65535 : Int32))) X0 at_7 rfl rfl ?_
    obtain ⟨c605, ce606⟩ : ∃ z : Int32, (p2 &&& (65535 : Int32)).toUInt32.toUInt16.toUInt32.toInt32 = z := ⟨_, rfl⟩
    refine o_i2c 9 (v := c605) X0 at_8 rfl ce606 <| oS 11 (l' := #[ii p1, ii p2, ii p3, ii 3, ii c605, uu, uu, uu, uu, uu]) X0 at_9 rfl rfl <| oI 12 X0 at_11 rfl rfl <| ob 14 (v := 16) X0 at_12 rfl (by decide) <| o_iushr 15 (v := ((p2.toUInt32 >>> ((16 : Int32) &&& 31).toUInt32).toInt32)) X0 at_14 rfl rfl <| o_ldcI 17 (v := (65535 : Int32)) X0 (w0 G) at_15 rfl <| o_iand 18 (v := (((p2.toUInt32 >>> ((16 : Int32) &&& 31).toUInt32).toInt32) &&& (65535 : Int32))) X0 at_17 rfl rfl ?_
    obtain ⟨c607, ce608⟩ : ∃ z : Int32, (((p2.toUInt32 >>> ((16 : Int32) &&& 31).toUInt32).toInt32) &&& (65535 : Int32)).toUInt32.toUInt16.toUInt32.toInt32 = z := ⟨_, rfl⟩
    refine o_i2c 19 (v := c607) X0 at_18 rfl ce608 <| oS 21 (l' := #[ii p1, ii p2, ii p3, ii 3, ii c605, ii c607, uu, uu, uu, uu]) X0 at_19 rfl rfl <| oI 22 X0 at_21 rfl rfl <| o_ldcI 24 (v := (65535 : Int32)) X0 (w0 G) at_22 rfl <| o_iand 25 (v := (p3 &&& (65535 : Int32))) X0 at_24 rfl rfl ?_
    obtain ⟨c609, ce610⟩ : ∃ z : Int32, (p3 &&& (65535 : Int32)).toUInt32.toUInt16.toUInt32.toInt32 = z := ⟨_, rfl⟩
    refine o_i2c 26 (v := c609) X0 at_25 rfl ce610 <| oS 28 (l' := #[ii p1, ii p2, ii p3, ii 3, ii c605, ii c607, ii c609, uu, uu, uu]) X0 at_26 rfl rfl <| oI 29 X0 at_28 rfl rfl <| oy 69 X0 at_29 (by decide) ((if0 _ _).trans (feq (by decide)).2) <| oI 70 X0 at_69 rfl rfl <| oc 71 (v := 1) X0 at_70 rfl (by decide) <| oY 140 X0 at_71 (by decide) (feq (by decide)).2 <| oI 141 X0 at_140 rfl rfl <| oc 142 (v := 2) X0 at_141 rfl (by decide) <| oY 221 X0 at_142 (by decide) (feq (by decide)).2 <| oi 223 X0 at_221 rfl rfl <| ob 225 (v := 47) X0 at_223 rfl (by decide) ?_
    by_cases hc611 : c609 = (47 : Int32)
    · refine oN 228 X0 at_225 rfl (teq hc611).2 <| oc 229 (v := 1) X0 at_228 rfl (by decide) ?_
      exact o_nret (y := (1 : Int32)) (t := .boolean) X0 at_229 rfl (by decide) (by simp) (by decide) (by decide) (fun _ CC => rfl)
    · refine oY 230 X0 at_225 (by decide) (feq hc611).2 ?_
      by_cases hc612 : (255 : Int32) < c605
      · refine o_new 233 X0 (w1 G) (w2 G) (w3 G) at_230 rfl (by decide) (by decide) ?_
        intro _ h613 b613 X613 _ _ _ A613 D613 _ _ S613
        have f614 : fd0 Z h613 b613 .null := D613 (Or.inr (w17 G)) fd_0
        have f615 : fd1 Z h613 b613 (.int 0) := D613 (Or.inr (w18 G)) fd_1
        refine oD 234 X613 at_233 rfl rfl <| oc 235 (v := 4) X613 at_234 rfl (by decide) <| nP (aty := .char) 237 4 X613 (w4 G) at_235 rfl (by decide) had_char ?_
        intro _ h616 b616 k616 X616 _ _ E616 V616 A616 C616 _
        have V617 : av1 Z h616 b616 k616 4 [i0, i0, i0, i0] := V616.pad (pad_rep [] (.int (0 : Int32)) 4)
        refine oD 238 X616 at_237 rfl rfl <| oc 239 (v := 0) X616 at_238 rfl (by decide) <| ob 241 (v := 47) X616 at_239 rfl (by decide) <| sC 242 0 47 X616 V617 (by decide) (lb rfl) (by decide) at_241 rfl (by omega) (Or.inr (by omega)) (sx X616 A616 nc0) ?_
        rintro _ _ X618 ⟨_, _, W618⟩ C618 V618
        have := W618.size
        have V619 := V618.as [.int 47, i0, i0, i0] rfl
        refine oD 243 X618 at_242 rfl rfl <| oc 244 (v := 1) X618 at_243 rfl (by decide) <| oi 246 X618 at_244 rfl rfl ?_
        have f621 := A616.wr W618
        refine sC 247 1 c605 X618 V619 (by decide) (lb rfl) (own_nc2 ce606) at_246 rfl (by omega) (Or.inr (by omega)) (sx X618 f621 nc0) ?_
        rintro _ _ X620 ⟨_, _, W620⟩ C620 V620
        have := W620.size
        have V622 := V620.as [.int 47, .int c605, i0, i0] rfl
        refine oD 248 X620 at_247 rfl rfl <| oc 249 (v := 2) X620 at_248 rfl (by decide) <| oi 251 X620 at_249 rfl rfl ?_
        have f624 := f621.wr W620
        refine sC 252 2 c607 X620 V622 (by decide) (lb rfl) (own_nc2 ce608) at_251 rfl (by omega) (Or.inr (by omega)) (sx X620 f624 nc0) ?_
        rintro _ _ X623 ⟨_, _, W623⟩ C623 V623
        have := W623.size
        have V625 := V623.as [.int 47, .int c605, .int c607, i0] rfl
        refine oD 253 X623 at_252 rfl rfl <| oc 254 (v := 3) X623 at_253 rfl (by decide) <| oi 256 X623 at_254 rfl rfl ?_
        have f627 := f624.wr W623
        refine sC 257 3 c609 X623 V625 (by decide) (lb rfl) (own_nc2 ce610) at_256 rfl (by omega) (Or.inr (by omega)) (sx X623 f627 nc0) ?_
        rintro _ _ X626 ⟨_, _, W626⟩ C626 V626
        have := W626.size
        have V628 := V626.as [.int 47, .int c605, .int c607, .int c609] rfl
        have f629 := ((((A613.ext E616).wr W618).wr W620).wr W623).wr W626
        have f630 := ((((f615.ext E616).oth W618 (by omega)).oth W620 (by omega)).oth W623 (by omega)).oth W626 (by omega)
        have f631 := ((((f614.ext E616).oth W618 (by omega)).oth W620 (by omega)).oth W623 (by omega)).oth W626 (by omega)
        have f632 := C626.safe (own_lt (by omega)) (C623.safe (own_lt (by omega)) (C620.safe (own_lt (by omega)) (C618.safe (own_lt (by omega)) (C616.safe (own_lt (by omega)) S613))))
        refine mP 260 1 X626 (rm_au187 G f629 f630 f631 V628 (⟨hc612, own_le16 ce606⟩ : (255 : Int32) < c605 ∧ ¬ (65535 : Int32) < c605) (by omega)) (u1 G) (sS (by omega) f632 all0) at_257 rfl rfl rfl lr (by decide) (aR (by omega) all0) ?_
        rintro _ _ _ _ X633 ⟨_, _, rfl, q636, q637, q638, q639, q640, _, _⟩ _ _ _
        refine oU 262 (l' := #[ii p1, ii p2, ii p3, ii 3, ii c605, ii c607, ii c609, rr b613, uu, uu]) X633 at_260 rfl rfl rfl <| o_new 265 X633 (w1 G) (w2 G) (w3 G) at_262 rfl (by decide) (by decide) ?_
        intro _ h643 b643 X643 _ _ E643 A643 D643 _ _ S643
        have f644 : fd0 Z h643 b643 .null := D643 (Or.inr (w17 G)) fd_0
        have f645 : fd1 Z h643 b643 (.int 0) := D643 (Or.inr (w18 G)) fd_1
        refine oD 266 X643 at_265 rfl rfl <| ob 268 (v := 6) X643 at_266 rfl (by decide) <| nP (aty := .char) 270 6 X643 (w4 G) at_268 rfl (by decide) had_char ?_
        intro _ h646 b646 k646 X646 _ _ E646 V646 A646 C646 _
        have V647 : av1 Z h646 b646 k646 6 [i0, i0, i0, i0, i0, i0] := V646.pad (pad_rep [] (.int (0 : Int32)) 6)
        refine oD 271 X646 at_270 rfl rfl <| oc 272 (v := 0) X646 at_271 rfl (by decide) <| ob 274 (v := 47) X646 at_272 rfl (by decide) <| sC 275 0 47 X646 V647 (by decide) (lb rfl) (by decide) at_274 rfl (by omega) (Or.inr (by omega)) (sx X646 A646 nc0) ?_
        rintro _ _ X648 ⟨_, _, W648⟩ C648 V648
        have := W648.size
        have V649 := V648.as [.int 47, i0, i0, i0, i0, i0] rfl
        refine oD 276 X648 at_275 rfl rfl <| oc 277 (v := 1) X648 at_276 rfl (by decide) <| oi 279 X648 at_277 rfl rfl ?_
        have f651 := A646.wr W648
        refine sC 280 1 c605 X648 V649 (by decide) (lb rfl) (own_nc2 ce606) at_279 rfl (by omega) (Or.inr (by omega)) (sx X648 f651 nc0) ?_
        rintro _ _ X650 ⟨_, _, W650⟩ C650 V650
        have := W650.size
        have V652 := V650.as [.int 47, .int c605, i0, i0, i0, i0] rfl
        refine oD 281 X650 at_280 rfl rfl <| oc 282 (v := 2) X650 at_281 rfl (by decide) <| oi 284 X650 at_282 rfl rfl ?_
        have f654 := f651.wr W650
        refine sC 285 2 c607 X650 V652 (by decide) (lb rfl) (own_nc2 ce608) at_284 rfl (by omega) (Or.inr (by omega)) (sx X650 f654 nc0) ?_
        rintro _ _ X653 ⟨_, _, W653⟩ C653 V653
        have := W653.size
        have V655 := V653.as [.int 47, .int c605, .int c607, i0, i0, i0] rfl
        refine oD 286 X653 at_285 rfl rfl <| oc 287 (v := 3) X653 at_286 rfl (by decide) <| oi 289 X653 at_287 rfl rfl ?_
        have f657 := f654.wr W653
        refine sC 290 3 c609 X653 V655 (by decide) (lb rfl) (own_nc2 ce610) at_289 rfl (by omega) (Or.inr (by omega)) (sx X653 f657 nc0) ?_
        rintro _ _ X656 ⟨_, _, W656⟩ C656 V656
        have := W656.size
        have V658 := V656.as [.int 47, .int c605, .int c607, .int c609, i0, i0] rfl
        refine oD 291 X656 at_290 rfl rfl <| oc 292 (v := 4) X656 at_291 rfl (by decide) <| ob 294 (v := 47) X656 at_292 rfl (by decide) ?_
        have f660 := f657.wr W656
        refine sC 295 4 47 X656 V658 (by decide) (lb rfl) (by decide) at_294 rfl (by omega) (Or.inr (by omega)) (sx X656 f660 nc0) ?_
        rintro _ _ X659 ⟨_, _, W659⟩ C659 V659
        have := W659.size
        have V661 := V659.as [.int 47, .int c605, .int c607, .int c609, .int 47, i0] rfl
        refine oD 296 X659 at_295 rfl rfl <| oc 297 (v := 5) X659 at_296 rfl (by decide) <| ob 299 (v := 42) X659 at_297 rfl (by decide) ?_
        have f663 := f660.wr W659
        refine sC 300 5 42 X659 V661 (by decide) (lb rfl) (by decide) at_299 rfl (by omega) (Or.inr (by omega)) (sx X659 f663 nc0) ?_
        rintro _ _ X662 ⟨_, _, W662⟩ C662 V662
        have := W662.size
        have V664 := V662.as [.int 47, .int c605, .int c607, .int c609, .int 47, .int 42] rfl
        have f665 := ((((((A643.ext E646).wr W648).wr W650).wr W653).wr W656).wr W659).wr W662
        have f666 := ((((((f645.ext E646).oth W648 (by omega)).oth W650 (by omega)).oth W653 (by omega)).oth W656 (by omega)).oth W659 (by omega)).oth W662 (by omega)
        have f667 := ((((((f644.ext E646).oth W648 (by omega)).oth W650 (by omega)).oth W653 (by omega)).oth W656 (by omega)).oth W659 (by omega)).oth W662 (by omega)
        have f668 := C662.safe (own_lt (by omega)) (C659.safe (own_lt (by omega)) (C656.safe (own_lt (by omega)) (C653.safe (own_lt (by omega)) (C650.safe (own_lt (by omega)) (C648.safe (own_lt (by omega)) (C646.safe (own_lt (by omega)) S643))))))
        refine mP 303 1 X662 (rm_au195 G f665 f666 f667 V664 (⟨hc612, own_le16 ce606⟩ : (255 : Int32) < c605 ∧ ¬ (65535 : Int32) < c605) (by omega)) (u1 G) (sS (by omega) f668 all0) at_300 rfl rfl rfl lr (by decide) (aR (by omega) all0) ?_
        rintro _ _ _ _ X669 ⟨_, _, rfl, q672, q673, q674, q675, _, _, _⟩ K669 _ _
        refine oU 305 (l' := #[ii p1, ii p2, ii p3, ii 3, ii c605, ii c607, ii c609, rr b613, rr b643, uu]) X669 at_303 rfl rfl rfl <| oa 307 X669 at_305 rfl rfl ?_
        have f679 := ((((((((q636.ext E643).ext E646).wr W648).wr W650).wr W653).wr W656).wr W659).wr W662).keep K669
        have f680 := ((((((((q637.ext E643).ext E646).oth W648 (by omega)).oth W650 (by omega)).oth W653 (by omega)).oth W656 (by omega)).oth W659 (by omega)).oth W662 (by omega)).k1 K669 (by omega)
        have f681 := ((((((((q638.ext E643).ext E646).oth W648 (by omega)).oth W650 (by omega)).oth W653 (by omega)).oth W656 (by omega)).oth W659 (by omega)).oth W662 (by omega)).k1 K669 (by omega)
        have f682 := ((((((((q639.ext E643).ext E646).oth W648 (by omega)).oth W650 (by omega)).oth W653 (by omega)).oth W656 (by omega)).oth W659 (by omega)).oth W662 (by omega)).k1 K669 (by omega)
        have f683 := ((((((((q640.ext E643).ext E646).wr W648).wr W650).wr W653).wr W656).wr W659).wr W662).keep K669
        refine mS 310 0 X669 (rm_au212 G f679 f680 f681 f682 f683) (u28 G) all0 at_307 rfl rfl rfl lr (by decide) all0 ?_
        rintro _ _ _ _ X684 ⟨xa1_685, _, _, _, rfl, q689, q690, q691, q692, q693, q694, q695, _, q697, _, _, _⟩ K684 _ _
        refine oU 312 (l' := #[ii p1, ii p2, ii p3, ii 3, ii c605, ii c607, ii c609, rr b613, rr b643, rr xa1_685]) X684 at_310 rfl rfl rfl <| oa 314 X684 at_312 rfl rfl <| mV 317 0 X684 q689 (rm_au35 G q691) (u29 G) all0 at_314 rfl rfl rfl lr (by decide) all0 ?_
        rintro _ _ _ _ X701 rfl K701 _ _
        refine oa 319 X701 at_317 rfl rfl ?_
        have f702 := q694.k0 K701
        have f703 := q695.k0 K701
        have f704 := (q672.keep K684).keep K701
        have f705 := (q673.k0 K684).k0 K701
        have f706 := (q674.k0 K684).k0 K701
        have f707 := q697.k0 K701
        have f708 := (q675.k0 K684).k0 K701
        have f709 := q693.keep K701
        refine mV 322 0 X701 f709 (rm_au214 G f702 f703 f704 f705 f706 f707 f708 (by decide) (by omega)) (u31 G) all0 at_319 rfl rfl rfl lr (by decide) all0 ?_
        rintro _ _ _ _ X710 rfl K710 _ _
        refine on 325 X710 at_322 rfl ((if0 _ _).trans (feq (by decide)).1) <| oa 327 X710 at_325 rfl rfl ?_
        have f711 := (q690.k0 K701).k0 K710
        have f712 := (q689.keep K701).keep K710
        refine mV 330 0 X710 f712 (rm_au38 G f711) (u32 G) all0 at_327 rfl rfl rfl lr (by decide) all0 ?_
        rintro _ _ _ _ X713 rfl K713 _ _
        refine oG 333 X713 (w184 G) Via.refl ((sg1 G).ext X713.old.2) at_330 rfl ?_
        intro _ X715
        refine o_acmp 336 (same := true) X715 at_333 rfl rfl (decide_eq_true rfl) (by decide) (by decide) <| oa 338 X715 at_336 rfl rfl ?_
        have f716 := ((q692.k0 K701).k0 K710).k0 K713
        have f717 := f712.keep K713
        refine mV 341 0 X715 f717 (rm_au39 G f716) (u33 G) all0 at_338 rfl rfl rfl lr (by decide) all0 ?_
        rintro _ _ _ _ X718 rfl K718 _ _
        refine oa 343 X718 at_341 rfl rfl ?_
        have f719 := ((((f679.keep K684).keep K701).keep K710).keep K713).keep K718
        refine mV 346 0 X718 f719 (rm_au40 G ) (u31 G) all0 at_343 rfl rfl rfl lr (by decide) all0 ?_
        rintro _ _ _ _ X720 rfl _ _ _
        refine on 349 X720 at_346 rfl ((if0 _ _).trans (feq (by decide)).1) <| oc 350 (v := 1) X720 at_349 rfl (by decide) <| og 354 X720 at_350 (by decide) ?_
        exact o_nret (y := (1 : Int32)) (t := .boolean) X720 at_354 rfl (by decide) (by simp) (by decide) (by decide) (fun _ CC => rfl)
      · by_cases hc721 : (255 : Int32) < c607
        · refine o_new 233 X0 (w1 G) (w2 G) (w3 G) at_230 rfl (by decide) (by decide) ?_
          intro _ h722 b722 X722 _ _ _ A722 D722 _ _ S722
          have f723 : fd0 Z h722 b722 .null := D722 (Or.inr (w17 G)) fd_0
          have f724 : fd1 Z h722 b722 (.int 0) := D722 (Or.inr (w18 G)) fd_1
          refine oD 234 X722 at_233 rfl rfl <| oc 235 (v := 4) X722 at_234 rfl (by decide) <| nP (aty := .char) 237 4 X722 (w4 G) at_235 rfl (by decide) had_char ?_
          intro _ h725 b725 k725 X725 _ _ E725 V725 A725 C725 _
          have V726 : av1 Z h725 b725 k725 4 [i0, i0, i0, i0] := V725.pad (pad_rep [] (.int (0 : Int32)) 4)
          refine oD 238 X725 at_237 rfl rfl <| oc 239 (v := 0) X725 at_238 rfl (by decide) <| ob 241 (v := 47) X725 at_239 rfl (by decide) <| sC 242 0 47 X725 V726 (by decide) (lb rfl) (by decide) at_241 rfl (by omega) (Or.inr (by omega)) (sx X725 A725 nc0) ?_
          rintro _ _ X727 ⟨_, _, W727⟩ C727 V727
          have := W727.size
          have V728 := V727.as [.int 47, i0, i0, i0] rfl
          refine oD 243 X727 at_242 rfl rfl <| oc 244 (v := 1) X727 at_243 rfl (by decide) <| oi 246 X727 at_244 rfl rfl ?_
          have f730 := A725.wr W727
          refine sC 247 1 c605 X727 V728 (by decide) (lb rfl) (own_nc2 ce606) at_246 rfl (by omega) (Or.inr (by omega)) (sx X727 f730 nc0) ?_
          rintro _ _ X729 ⟨_, _, W729⟩ C729 V729
          have := W729.size
          have V731 := V729.as [.int 47, .int c605, i0, i0] rfl
          refine oD 248 X729 at_247 rfl rfl <| oc 249 (v := 2) X729 at_248 rfl (by decide) <| oi 251 X729 at_249 rfl rfl ?_
          have f733 := f730.wr W729
          refine sC 252 2 c607 X729 V731 (by decide) (lb rfl) (own_nc2 ce608) at_251 rfl (by omega) (Or.inr (by omega)) (sx X729 f733 nc0) ?_
          rintro _ _ X732 ⟨_, _, W732⟩ C732 V732
          have := W732.size
          have V734 := V732.as [.int 47, .int c605, .int c607, i0] rfl
          refine oD 253 X732 at_252 rfl rfl <| oc 254 (v := 3) X732 at_253 rfl (by decide) <| oi 256 X732 at_254 rfl rfl ?_
          have f736 := f733.wr W732
          refine sC 257 3 c609 X732 V734 (by decide) (lb rfl) (own_nc2 ce610) at_256 rfl (by omega) (Or.inr (by omega)) (sx X732 f736 nc0) ?_
          rintro _ _ X735 ⟨_, _, W735⟩ C735 V735
          have := W735.size
          have V737 := V735.as [.int 47, .int c605, .int c607, .int c609] rfl
          have f738 := ((((A722.ext E725).wr W727).wr W729).wr W732).wr W735
          have f739 := ((((f724.ext E725).oth W727 (by omega)).oth W729 (by omega)).oth W732 (by omega)).oth W735 (by omega)
          have f740 := ((((f723.ext E725).oth W727 (by omega)).oth W729 (by omega)).oth W732 (by omega)).oth W735 (by omega)
          have f741 := C735.safe (own_lt (by omega)) (C732.safe (own_lt (by omega)) (C729.safe (own_lt (by omega)) (C727.safe (own_lt (by omega)) (C725.safe (own_lt (by omega)) S722))))
          refine mP 260 1 X735 (rm_au219 G f738 f739 f740 V737 (own_sm ce606 hc612) (⟨hc721, own_le16 ce608⟩ : (255 : Int32) < c607 ∧ ¬ (65535 : Int32) < c607) (by omega)) (u1 G) (sS (by omega) f741 all0) at_257 rfl rfl rfl lr (by decide) (aR (by omega) all0) ?_
          rintro _ _ _ _ X742 ⟨_, _, rfl, q745, q746, q747, q748, q749, _, _⟩ _ _ _
          refine oU 262 (l' := #[ii p1, ii p2, ii p3, ii 3, ii c605, ii c607, ii c609, rr b722, uu, uu]) X742 at_260 rfl rfl rfl <| o_new 265 X742 (w1 G) (w2 G) (w3 G) at_262 rfl (by decide) (by decide) ?_
          intro _ h752 b752 X752 _ _ E752 A752 D752 _ _ S752
          have f753 : fd0 Z h752 b752 .null := D752 (Or.inr (w17 G)) fd_0
          have f754 : fd1 Z h752 b752 (.int 0) := D752 (Or.inr (w18 G)) fd_1
          refine oD 266 X752 at_265 rfl rfl <| ob 268 (v := 6) X752 at_266 rfl (by decide) <| nP (aty := .char) 270 6 X752 (w4 G) at_268 rfl (by decide) had_char ?_
          intro _ h755 b755 k755 X755 _ _ E755 V755 A755 C755 _
          have V756 : av1 Z h755 b755 k755 6 [i0, i0, i0, i0, i0, i0] := V755.pad (pad_rep [] (.int (0 : Int32)) 6)
          refine oD 271 X755 at_270 rfl rfl <| oc 272 (v := 0) X755 at_271 rfl (by decide) <| ob 274 (v := 47) X755 at_272 rfl (by decide) <| sC 275 0 47 X755 V756 (by decide) (lb rfl) (by decide) at_274 rfl (by omega) (Or.inr (by omega)) (sx X755 A755 nc0) ?_
          rintro _ _ X757 ⟨_, _, W757⟩ C757 V757
          have := W757.size
          have V758 := V757.as [.int 47, i0, i0, i0, i0, i0] rfl
          refine oD 276 X757 at_275 rfl rfl <| oc 277 (v := 1) X757 at_276 rfl (by decide) <| oi 279 X757 at_277 rfl rfl ?_
          have f760 := A755.wr W757
          refine sC 280 1 c605 X757 V758 (by decide) (lb rfl) (own_nc2 ce606) at_279 rfl (by omega) (Or.inr (by omega)) (sx X757 f760 nc0) ?_
          rintro _ _ X759 ⟨_, _, W759⟩ C759 V759
          have := W759.size
          have V761 := V759.as [.int 47, .int c605, i0, i0, i0, i0] rfl
          refine oD 281 X759 at_280 rfl rfl <| oc 282 (v := 2) X759 at_281 rfl (by decide) <| oi 284 X759 at_282 rfl rfl ?_
          have f763 := f760.wr W759
          refine sC 285 2 c607 X759 V761 (by decide) (lb rfl) (own_nc2 ce608) at_284 rfl (by omega) (Or.inr (by omega)) (sx X759 f763 nc0) ?_
          rintro _ _ X762 ⟨_, _, W762⟩ C762 V762
          have := W762.size
          have V764 := V762.as [.int 47, .int c605, .int c607, i0, i0, i0] rfl
          refine oD 286 X762 at_285 rfl rfl <| oc 287 (v := 3) X762 at_286 rfl (by decide) <| oi 289 X762 at_287 rfl rfl ?_
          have f766 := f763.wr W762
          refine sC 290 3 c609 X762 V764 (by decide) (lb rfl) (own_nc2 ce610) at_289 rfl (by omega) (Or.inr (by omega)) (sx X762 f766 nc0) ?_
          rintro _ _ X765 ⟨_, _, W765⟩ C765 V765
          have := W765.size
          have V767 := V765.as [.int 47, .int c605, .int c607, .int c609, i0, i0] rfl
          refine oD 291 X765 at_290 rfl rfl <| oc 292 (v := 4) X765 at_291 rfl (by decide) <| ob 294 (v := 47) X765 at_292 rfl (by decide) ?_
          have f769 := f766.wr W765
          refine sC 295 4 47 X765 V767 (by decide) (lb rfl) (by decide) at_294 rfl (by omega) (Or.inr (by omega)) (sx X765 f769 nc0) ?_
          rintro _ _ X768 ⟨_, _, W768⟩ C768 V768
          have := W768.size
          have V770 := V768.as [.int 47, .int c605, .int c607, .int c609, .int 47, i0] rfl
          refine oD 296 X768 at_295 rfl rfl <| oc 297 (v := 5) X768 at_296 rfl (by decide) <| ob 299 (v := 42) X768 at_297 rfl (by decide) ?_
          have f772 := f769.wr W768
          refine sC 300 5 42 X768 V770 (by decide) (lb rfl) (by decide) at_299 rfl (by omega) (Or.inr (by omega)) (sx X768 f772 nc0) ?_
          rintro _ _ X771 ⟨_, _, W771⟩ C771 V771
          have := W771.size
          have V773 := V771.as [.int 47, .int c605, .int c607, .int c609, .int 47, .int 42] rfl
          have f774 := ((((((A752.ext E755).wr W757).wr W759).wr W762).wr W765).wr W768).wr W771
          have f775 := ((((((f754.ext E755).oth W757 (by omega)).oth W759 (by omega)).oth W762 (by omega)).oth W765 (by omega)).oth W768 (by omega)).oth W771 (by omega)
          have f776 := ((((((f753.ext E755).oth W757 (by omega)).oth W759 (by omega)).oth W762 (by omega)).oth W765 (by omega)).oth W768 (by omega)).oth W771 (by omega)
          have f777 := C771.safe (own_lt (by omega)) (C768.safe (own_lt (by omega)) (C765.safe (own_lt (by omega)) (C762.safe (own_lt (by omega)) (C759.safe (own_lt (by omega)) (C757.safe (own_lt (by omega)) (C755.safe (own_lt (by omega)) S752))))))
          refine mP 303 1 X771 (rm_au224 G f774 f775 f776 V773 (own_sm ce606 hc612) (⟨hc721, own_le16 ce608⟩ : (255 : Int32) < c607 ∧ ¬ (65535 : Int32) < c607) (by omega)) (u1 G) (sS (by omega) f777 all0) at_300 rfl rfl rfl lr (by decide) (aR (by omega) all0) ?_
          rintro _ _ _ _ X778 ⟨_, _, rfl, q781, q782, q783, q784, _, _, _⟩ K778 _ _
          refine oU 305 (l' := #[ii p1, ii p2, ii p3, ii 3, ii c605, ii c607, ii c609, rr b722, rr b752, uu]) X778 at_303 rfl rfl rfl <| oa 307 X778 at_305 rfl rfl ?_
          have f788 := ((((((((q745.ext E752).ext E755).wr W757).wr W759).wr W762).wr W765).wr W768).wr W771).keep K778
          have f789 := ((((((((q746.ext E752).ext E755).oth W757 (by omega)).oth W759 (by omega)).oth W762 (by omega)).oth W765 (by omega)).oth W768 (by omega)).oth W771 (by omega)).k1 K778 (by omega)
          have f790 := ((((((((q747.ext E752).ext E755).oth W757 (by omega)).oth W759 (by omega)).oth W762 (by omega)).oth W765 (by omega)).oth W768 (by omega)).oth W771 (by omega)).k1 K778 (by omega)
          have f791 := ((((((((q748.ext E752).ext E755).oth W757 (by omega)).oth W759 (by omega)).oth W762 (by omega)).oth W765 (by omega)).oth W768 (by omega)).oth W771 (by omega)).k1 K778 (by omega)
          have f792 := ((((((((q749.ext E752).ext E755).wr W757).wr W759).wr W762).wr W765).wr W768).wr W771).keep K778
          refine mS 310 0 X778 (rm_au212 G f788 f789 f790 f791 f792) (u28 G) all0 at_307 rfl rfl rfl lr (by decide) all0 ?_
          rintro _ _ _ _ X793 ⟨xa1_794, _, _, _, rfl, q798, q799, q800, q801, q802, q803, q804, _, q806, _, _, _⟩ K793 _ _
          refine oU 312 (l' := #[ii p1, ii p2, ii p3, ii 3, ii c605, ii c607, ii c609, rr b722, rr b752, rr xa1_794]) X793 at_310 rfl rfl rfl <| oa 314 X793 at_312 rfl rfl <| mV 317 0 X793 q798 (rm_au35 G q800) (u29 G) all0 at_314 rfl rfl rfl lr (by decide) all0 ?_
          rintro _ _ _ _ X810 rfl K810 _ _
          refine oa 319 X810 at_317 rfl rfl ?_
          have f811 := q803.k0 K810
          have f812 := q804.k0 K810
          have f813 := (q781.keep K793).keep K810
          have f814 := (q782.k0 K793).k0 K810
          have f815 := (q783.k0 K793).k0 K810
          have f816 := q806.k0 K810
          have f817 := (q784.k0 K793).k0 K810
          have f818 := q802.keep K810
          refine mV 322 0 X810 f818 (rm_au214 G f811 f812 f813 f814 f815 f816 f817 (by decide) (by omega)) (u31 G) all0 at_319 rfl rfl rfl lr (by decide) all0 ?_
          rintro _ _ _ _ X819 rfl K819 _ _
          refine on 325 X819 at_322 rfl ((if0 _ _).trans (feq (by decide)).1) <| oa 327 X819 at_325 rfl rfl ?_
          have f820 := (q799.k0 K810).k0 K819
          have f821 := (q798.keep K810).keep K819
          refine mV 330 0 X819 f821 (rm_au38 G f820) (u32 G) all0 at_327 rfl rfl rfl lr (by decide) all0 ?_
          rintro _ _ _ _ X822 rfl K822 _ _
          refine oG 333 X822 (w184 G) Via.refl ((sg1 G).ext X822.old.2) at_330 rfl ?_
          intro _ X824
          refine o_acmp 336 (same := true) X824 at_333 rfl rfl (decide_eq_true rfl) (by decide) (by decide) <| oa 338 X824 at_336 rfl rfl ?_
          have f825 := ((q801.k0 K810).k0 K819).k0 K822
          have f826 := f821.keep K822
          refine mV 341 0 X824 f826 (rm_au39 G f825) (u33 G) all0 at_338 rfl rfl rfl lr (by decide) all0 ?_
          rintro _ _ _ _ X827 rfl K827 _ _
          refine oa 343 X827 at_341 rfl rfl ?_
          have f828 := ((((f788.keep K793).keep K810).keep K819).keep K822).keep K827
          refine mV 346 0 X827 f828 (rm_au40 G ) (u31 G) all0 at_343 rfl rfl rfl lr (by decide) all0 ?_
          rintro _ _ _ _ X829 rfl _ _ _
          refine on 349 X829 at_346 rfl ((if0 _ _).trans (feq (by decide)).1) <| oc 350 (v := 1) X829 at_349 rfl (by decide) <| og 354 X829 at_350 (by decide) ?_
          exact o_nret (y := (1 : Int32)) (t := .boolean) X829 at_354 rfl (by decide) (by simp) (by decide) (by decide) (fun _ CC => rfl)
        · by_cases hc830 : (255 : Int32) < c609
          · refine o_new 233 X0 (w1 G) (w2 G) (w3 G) at_230 rfl (by decide) (by decide) ?_
            intro _ h831 b831 X831 _ _ _ A831 D831 _ _ S831
            have f832 : fd0 Z h831 b831 .null := D831 (Or.inr (w17 G)) fd_0
            have f833 : fd1 Z h831 b831 (.int 0) := D831 (Or.inr (w18 G)) fd_1
            refine oD 234 X831 at_233 rfl rfl <| oc 235 (v := 4) X831 at_234 rfl (by decide) <| nP (aty := .char) 237 4 X831 (w4 G) at_235 rfl (by decide) had_char ?_
            intro _ h834 b834 k834 X834 _ _ E834 V834 A834 C834 _
            have V835 : av1 Z h834 b834 k834 4 [i0, i0, i0, i0] := V834.pad (pad_rep [] (.int (0 : Int32)) 4)
            refine oD 238 X834 at_237 rfl rfl <| oc 239 (v := 0) X834 at_238 rfl (by decide) <| ob 241 (v := 47) X834 at_239 rfl (by decide) <| sC 242 0 47 X834 V835 (by decide) (lb rfl) (by decide) at_241 rfl (by omega) (Or.inr (by omega)) (sx X834 A834 nc0) ?_
            rintro _ _ X836 ⟨_, _, W836⟩ C836 V836
            have := W836.size
            have V837 := V836.as [.int 47, i0, i0, i0] rfl
            refine oD 243 X836 at_242 rfl rfl <| oc 244 (v := 1) X836 at_243 rfl (by decide) <| oi 246 X836 at_244 rfl rfl ?_
            have f839 := A834.wr W836
            refine sC 247 1 c605 X836 V837 (by decide) (lb rfl) (own_nc2 ce606) at_246 rfl (by omega) (Or.inr (by omega)) (sx X836 f839 nc0) ?_
            rintro _ _ X838 ⟨_, _, W838⟩ C838 V838
            have := W838.size
            have V840 := V838.as [.int 47, .int c605, i0, i0] rfl
            refine oD 248 X838 at_247 rfl rfl <| oc 249 (v := 2) X838 at_248 rfl (by decide) <| oi 251 X838 at_249 rfl rfl ?_
            have f842 := f839.wr W838
            refine sC 252 2 c607 X838 V840 (by decide) (lb rfl) (own_nc2 ce608) at_251 rfl (by omega) (Or.inr (by omega)) (sx X838 f842 nc0) ?_
            rintro _ _ X841 ⟨_, _, W841⟩ C841 V841
            have := W841.size
            have V843 := V841.as [.int 47, .int c605, .int c607, i0] rfl
            refine oD 253 X841 at_252 rfl rfl <| oc 254 (v := 3) X841 at_253 rfl (by decide) <| oi 256 X841 at_254 rfl rfl ?_
            have f845 := f842.wr W841
            refine sC 257 3 c609 X841 V843 (by decide) (lb rfl) (own_nc2 ce610) at_256 rfl (by omega) (Or.inr (by omega)) (sx X841 f845 nc0) ?_
            rintro _ _ X844 ⟨_, _, W844⟩ C844 V844
            have := W844.size
            have V846 := V844.as [.int 47, .int c605, .int c607, .int c609] rfl
            have f847 := ((((A831.ext E834).wr W836).wr W838).wr W841).wr W844
            have f848 := ((((f833.ext E834).oth W836 (by omega)).oth W838 (by omega)).oth W841 (by omega)).oth W844 (by omega)
            have f849 := ((((f832.ext E834).oth W836 (by omega)).oth W838 (by omega)).oth W841 (by omega)).oth W844 (by omega)
            have f850 := C844.safe (own_lt (by omega)) (C841.safe (own_lt (by omega)) (C838.safe (own_lt (by omega)) (C836.safe (own_lt (by omega)) (C834.safe (own_lt (by omega)) S831))))
            refine mP 260 1 X844 (rm_au229 G f847 f848 f849 V846 (own_sm ce606 hc612) (own_sm ce608 hc721) (⟨hc830, own_le16 ce610⟩ : (255 : Int32) < c609 ∧ ¬ (65535 : Int32) < c609) (by omega)) (u1 G) (sS (by omega) f850 all0) at_257 rfl rfl rfl lr (by decide) (aR (by omega) all0) ?_
            rintro _ _ _ _ X851 ⟨_, _, rfl, q854, q855, q856, q857, q858, _, _⟩ _ _ _
            refine oU 262 (l' := #[ii p1, ii p2, ii p3, ii 3, ii c605, ii c607, ii c609, rr b831, uu, uu]) X851 at_260 rfl rfl rfl <| o_new 265 X851 (w1 G) (w2 G) (w3 G) at_262 rfl (by decide) (by decide) ?_
            intro _ h861 b861 X861 _ _ E861 A861 D861 _ _ S861
            have f862 : fd0 Z h861 b861 .null := D861 (Or.inr (w17 G)) fd_0
            have f863 : fd1 Z h861 b861 (.int 0) := D861 (Or.inr (w18 G)) fd_1
            refine oD 266 X861 at_265 rfl rfl <| ob 268 (v := 6) X861 at_266 rfl (by decide) <| nP (aty := .char) 270 6 X861 (w4 G) at_268 rfl (by decide) had_char ?_
            intro _ h864 b864 k864 X864 _ _ E864 V864 A864 C864 _
            have V865 : av1 Z h864 b864 k864 6 [i0, i0, i0, i0, i0, i0] := V864.pad (pad_rep [] (.int (0 : Int32)) 6)
            refine oD 271 X864 at_270 rfl rfl <| oc 272 (v := 0) X864 at_271 rfl (by decide) <| ob 274 (v := 47) X864 at_272 rfl (by decide) <| sC 275 0 47 X864 V865 (by decide) (lb rfl) (by decide) at_274 rfl (by omega) (Or.inr (by omega)) (sx X864 A864 nc0) ?_
            rintro _ _ X866 ⟨_, _, W866⟩ C866 V866
            have := W866.size
            have V867 := V866.as [.int 47, i0, i0, i0, i0, i0] rfl
            refine oD 276 X866 at_275 rfl rfl <| oc 277 (v := 1) X866 at_276 rfl (by decide) <| oi 279 X866 at_277 rfl rfl ?_
            have f869 := A864.wr W866
            refine sC 280 1 c605 X866 V867 (by decide) (lb rfl) (own_nc2 ce606) at_279 rfl (by omega) (Or.inr (by omega)) (sx X866 f869 nc0) ?_
            rintro _ _ X868 ⟨_, _, W868⟩ C868 V868
            have := W868.size
            have V870 := V868.as [.int 47, .int c605, i0, i0, i0, i0] rfl
            refine oD 281 X868 at_280 rfl rfl <| oc 282 (v := 2) X868 at_281 rfl (by decide) <| oi 284 X868 at_282 rfl rfl ?_
            have f872 := f869.wr W868
            refine sC 285 2 c607 X868 V870 (by decide) (lb rfl) (own_nc2 ce608) at_284 rfl (by omega) (Or.inr (by omega)) (sx X868 f872 nc0) ?_
            rintro _ _ X871 ⟨_, _, W871⟩ C871 V871
            have := W871.size
            have V873 := V871.as [.int 47, .int c605, .int c607, i0, i0, i0] rfl
            refine oD 286 X871 at_285 rfl rfl <| oc 287 (v := 3) X871 at_286 rfl (by decide) <| oi 289 X871 at_287 rfl rfl ?_
            have f875 := f872.wr W871
            refine sC 290 3 c609 X871 V873 (by decide) (lb rfl) (own_nc2 ce610) at_289 rfl (by omega) (Or.inr (by omega)) (sx X871 f875 nc0) ?_
            rintro _ _ X874 ⟨_, _, W874⟩ C874 V874
            have := W874.size
            have V876 := V874.as [.int 47, .int c605, .int c607, .int c609, i0, i0] rfl
            refine oD 291 X874 at_290 rfl rfl <| oc 292 (v := 4) X874 at_291 rfl (by decide) <| ob 294 (v := 47) X874 at_292 rfl (by decide) ?_
            have f878 := f875.wr W874
            refine sC 295 4 47 X874 V876 (by decide) (lb rfl) (by decide) at_294 rfl (by omega) (Or.inr (by omega)) (sx X874 f878 nc0) ?_
            rintro _ _ X877 ⟨_, _, W877⟩ C877 V877
            have := W877.size
            have V879 := V877.as [.int 47, .int c605, .int c607, .int c609, .int 47, i0] rfl
            refine oD 296 X877 at_295 rfl rfl <| oc 297 (v := 5) X877 at_296 rfl (by decide) <| ob 299 (v := 42) X877 at_297 rfl (by decide) ?_
            have f881 := f878.wr W877
            refine sC 300 5 42 X877 V879 (by decide) (lb rfl) (by decide) at_299 rfl (by omega) (Or.inr (by omega)) (sx X877 f881 nc0) ?_
            rintro _ _ X880 ⟨_, _, W880⟩ C880 V880
            have := W880.size
            have V882 := V880.as [.int 47, .int c605, .int c607, .int c609, .int 47, .int 42] rfl
            have f883 := ((((((A861.ext E864).wr W866).wr W868).wr W871).wr W874).wr W877).wr W880
            have f884 := ((((((f863.ext E864).oth W866 (by omega)).oth W868 (by omega)).oth W871 (by omega)).oth W874 (by omega)).oth W877 (by omega)).oth W880 (by omega)
            have f885 := ((((((f862.ext E864).oth W866 (by omega)).oth W868 (by omega)).oth W871 (by omega)).oth W874 (by omega)).oth W877 (by omega)).oth W880 (by omega)
            have f886 := C880.safe (own_lt (by omega)) (C877.safe (own_lt (by omega)) (C874.safe (own_lt (by omega)) (C871.safe (own_lt (by omega)) (C868.safe (own_lt (by omega)) (C866.safe (own_lt (by omega)) (C864.safe (own_lt (by omega)) S861))))))
            refine mP 303 1 X880 (rm_au234 G f883 f884 f885 V882 (own_sm ce606 hc612) (own_sm ce608 hc721) (⟨hc830, own_le16 ce610⟩ : (255 : Int32) < c609 ∧ ¬ (65535 : Int32) < c609) (by omega)) (u1 G) (sS (by omega) f886 all0) at_300 rfl rfl rfl lr (by decide) (aR (by omega) all0) ?_
            rintro _ _ _ _ X887 ⟨_, _, rfl, q890, q891, q892, q893, _, _, _⟩ K887 _ _
            refine oU 305 (l' := #[ii p1, ii p2, ii p3, ii 3, ii c605, ii c607, ii c609, rr b831, rr b861, uu]) X887 at_303 rfl rfl rfl <| oa 307 X887 at_305 rfl rfl ?_
            have f897 := ((((((((q854.ext E861).ext E864).wr W866).wr W868).wr W871).wr W874).wr W877).wr W880).keep K887
            have f898 := ((((((((q855.ext E861).ext E864).oth W866 (by omega)).oth W868 (by omega)).oth W871 (by omega)).oth W874 (by omega)).oth W877 (by omega)).oth W880 (by omega)).k1 K887 (by omega)
            have f899 := ((((((((q856.ext E861).ext E864).oth W866 (by omega)).oth W868 (by omega)).oth W871 (by omega)).oth W874 (by omega)).oth W877 (by omega)).oth W880 (by omega)).k1 K887 (by omega)
            have f900 := ((((((((q857.ext E861).ext E864).oth W866 (by omega)).oth W868 (by omega)).oth W871 (by omega)).oth W874 (by omega)).oth W877 (by omega)).oth W880 (by omega)).k1 K887 (by omega)
            have f901 := ((((((((q858.ext E861).ext E864).wr W866).wr W868).wr W871).wr W874).wr W877).wr W880).keep K887
            refine mS 310 0 X887 (rm_au212 G f897 f898 f899 f900 f901) (u28 G) all0 at_307 rfl rfl rfl lr (by decide) all0 ?_
            rintro _ _ _ _ X902 ⟨xa1_903, _, _, _, rfl, q907, q908, q909, q910, q911, q912, q913, _, q915, _, _, _⟩ K902 _ _
            refine oU 312 (l' := #[ii p1, ii p2, ii p3, ii 3, ii c605, ii c607, ii c609, rr b831, rr b861, rr xa1_903]) X902 at_310 rfl rfl rfl <| oa 314 X902 at_312 rfl rfl <| mV 317 0 X902 q907 (rm_au35 G q909) (u29 G) all0 at_314 rfl rfl rfl lr (by decide) all0 ?_
            rintro _ _ _ _ X919 rfl K919 _ _
            refine oa 319 X919 at_317 rfl rfl ?_
            have f920 := q912.k0 K919
            have f921 := q913.k0 K919
            have f922 := (q890.keep K902).keep K919
            have f923 := (q891.k0 K902).k0 K919
            have f924 := (q892.k0 K902).k0 K919
            have f925 := q915.k0 K919
            have f926 := (q893.k0 K902).k0 K919
            have f927 := q911.keep K919
            refine mV 322 0 X919 f927 (rm_au214 G f920 f921 f922 f923 f924 f925 f926 (by decide) (by omega)) (u31 G) all0 at_319 rfl rfl rfl lr (by decide) all0 ?_
            rintro _ _ _ _ X928 rfl K928 _ _
            refine on 325 X928 at_322 rfl ((if0 _ _).trans (feq (by decide)).1) <| oa 327 X928 at_325 rfl rfl ?_
            have f929 := (q908.k0 K919).k0 K928
            have f930 := (q907.keep K919).keep K928
            refine mV 330 0 X928 f930 (rm_au38 G f929) (u32 G) all0 at_327 rfl rfl rfl lr (by decide) all0 ?_
            rintro _ _ _ _ X931 rfl K931 _ _
            refine oG 333 X931 (w184 G) Via.refl ((sg1 G).ext X931.old.2) at_330 rfl ?_
            intro _ X933
            refine o_acmp 336 (same := true) X933 at_333 rfl rfl (decide_eq_true rfl) (by decide) (by decide) <| oa 338 X933 at_336 rfl rfl ?_
            have f934 := ((q910.k0 K919).k0 K928).k0 K931
            have f935 := f930.keep K931
            refine mV 341 0 X933 f935 (rm_au39 G f934) (u33 G) all0 at_338 rfl rfl rfl lr (by decide) all0 ?_
            rintro _ _ _ _ X936 rfl K936 _ _
            refine oa 343 X936 at_341 rfl rfl ?_
            have f937 := ((((f897.keep K902).keep K919).keep K928).keep K931).keep K936
            refine mV 346 0 X936 f937 (rm_au40 G ) (u31 G) all0 at_343 rfl rfl rfl lr (by decide) all0 ?_
            rintro _ _ _ _ X938 rfl _ _ _
            refine on 349 X938 at_346 rfl ((if0 _ _).trans (feq (by decide)).1) <| oc 350 (v := 1) X938 at_349 rfl (by decide) <| og 354 X938 at_350 (by decide) ?_
            exact o_nret (y := (1 : Int32)) (t := .boolean) X938 at_354 rfl (by decide) (by simp) (by decide) (by decide) (fun _ CC => rfl)
          · refine o_new 233 X0 (w1 G) (w2 G) (w3 G) at_230 rfl (by decide) (by decide) ?_
            intro _ h939 b939 X939 _ _ _ A939 D939 _ _ S939
            have f940 : fd0 Z h939 b939 .null := D939 (Or.inr (w17 G)) fd_0
            have f941 : fd1 Z h939 b939 (.int 0) := D939 (Or.inr (w18 G)) fd_1
            refine oD 234 X939 at_233 rfl rfl <| oc 235 (v := 4) X939 at_234 rfl (by decide) <| nP (aty := .char) 237 4 X939 (w4 G) at_235 rfl (by decide) had_char ?_
            intro _ h942 b942 k942 X942 _ _ E942 V942 A942 C942 _
            have V943 : av1 Z h942 b942 k942 4 [i0, i0, i0, i0] := V942.pad (pad_rep [] (.int (0 : Int32)) 4)
            refine oD 238 X942 at_237 rfl rfl <| oc 239 (v := 0) X942 at_238 rfl (by decide) <| ob 241 (v := 47) X942 at_239 rfl (by decide) <| sC 242 0 47 X942 V943 (by decide) (lb rfl) (by decide) at_241 rfl (by omega) (Or.inr (by omega)) (sx X942 A942 nc0) ?_
            rintro _ _ X944 ⟨_, _, W944⟩ C944 V944
            have := W944.size
            have V945 := V944.as [.int 47, i0, i0, i0] rfl
            refine oD 243 X944 at_242 rfl rfl <| oc 244 (v := 1) X944 at_243 rfl (by decide) <| oi 246 X944 at_244 rfl rfl ?_
            have f947 := A942.wr W944
            refine sC 247 1 c605 X944 V945 (by decide) (lb rfl) (own_nc2 ce606) at_246 rfl (by omega) (Or.inr (by omega)) (sx X944 f947 nc0) ?_
            rintro _ _ X946 ⟨_, _, W946⟩ C946 V946
            have := W946.size
            have V948 := V946.as [.int 47, .int c605, i0, i0] rfl
            refine oD 248 X946 at_247 rfl rfl <| oc 249 (v := 2) X946 at_248 rfl (by decide) <| oi 251 X946 at_249 rfl rfl ?_
            have f950 := f947.wr W946
            refine sC 252 2 c607 X946 V948 (by decide) (lb rfl) (own_nc2 ce608) at_251 rfl (by omega) (Or.inr (by omega)) (sx X946 f950 nc0) ?_
            rintro _ _ X949 ⟨_, _, W949⟩ C949 V949
            have := W949.size
            have V951 := V949.as [.int 47, .int c605, .int c607, i0] rfl
            refine oD 253 X949 at_252 rfl rfl <| oc 254 (v := 3) X949 at_253 rfl (by decide) <| oi 256 X949 at_254 rfl rfl ?_
            have f953 := f950.wr W949
            refine sC 257 3 c609 X949 V951 (by decide) (lb rfl) (own_nc2 ce610) at_256 rfl (by omega) (Or.inr (by omega)) (sx X949 f953 nc0) ?_
            rintro _ _ X952 ⟨_, _, W952⟩ C952 V952
            have := W952.size
            have V954 := V952.as [.int 47, .int c605, .int c607, .int c609] rfl
            have f955 := ((((A939.ext E942).wr W944).wr W946).wr W949).wr W952
            have f956 := ((((f941.ext E942).oth W944 (by omega)).oth W946 (by omega)).oth W949 (by omega)).oth W952 (by omega)
            have f957 := ((((f940.ext E942).oth W944 (by omega)).oth W946 (by omega)).oth W949 (by omega)).oth W952 (by omega)
            have f958 := C952.safe (own_lt (by omega)) (C949.safe (own_lt (by omega)) (C946.safe (own_lt (by omega)) (C944.safe (own_lt (by omega)) (C942.safe (own_lt (by omega)) S939))))
            refine mP 260 1 X952 (rm_au238 G f955 f956 f957 V954 (own_sm ce606 hc612) (own_sm ce608 hc721) (own_sm ce610 hc830) (by omega)) (u1 G) (sS (by omega) f958 all0) at_257 rfl rfl rfl lr (by decide) (aR (by omega) all0) ?_
            rintro _ _ _ _ X959 ⟨_, _, rfl, q962, q963, q964, q965, q966, _, _⟩ _ _ _
            refine oU 262 (l' := #[ii p1, ii p2, ii p3, ii 3, ii c605, ii c607, ii c609, rr b939, uu, uu]) X959 at_260 rfl rfl rfl <| o_new 265 X959 (w1 G) (w2 G) (w3 G) at_262 rfl (by decide) (by decide) ?_
            intro _ h969 b969 X969 _ _ E969 A969 D969 _ _ S969
            have f970 : fd0 Z h969 b969 .null := D969 (Or.inr (w17 G)) fd_0
            have f971 : fd1 Z h969 b969 (.int 0) := D969 (Or.inr (w18 G)) fd_1
            refine oD 266 X969 at_265 rfl rfl <| ob 268 (v := 6) X969 at_266 rfl (by decide) <| nP (aty := .char) 270 6 X969 (w4 G) at_268 rfl (by decide) had_char ?_
            intro _ h972 b972 k972 X972 _ _ E972 V972 A972 C972 _
            have V973 : av1 Z h972 b972 k972 6 [i0, i0, i0, i0, i0, i0] := V972.pad (pad_rep [] (.int (0 : Int32)) 6)
            refine oD 271 X972 at_270 rfl rfl <| oc 272 (v := 0) X972 at_271 rfl (by decide) <| ob 274 (v := 47) X972 at_272 rfl (by decide) <| sC 275 0 47 X972 V973 (by decide) (lb rfl) (by decide) at_274 rfl (by omega) (Or.inr (by omega)) (sx X972 A972 nc0) ?_
            rintro _ _ X974 ⟨_, _, W974⟩ C974 V974
            have := W974.size
            have V975 := V974.as [.int 47, i0, i0, i0, i0, i0] rfl
            refine oD 276 X974 at_275 rfl rfl <| oc 277 (v := 1) X974 at_276 rfl (by decide) <| oi 279 X974 at_277 rfl rfl ?_
            have f977 := A972.wr W974
            refine sC 280 1 c605 X974 V975 (by decide) (lb rfl) (own_nc2 ce606) at_279 rfl (by omega) (Or.inr (by omega)) (sx X974 f977 nc0) ?_
            rintro _ _ X976 ⟨_, _, W976⟩ C976 V976
            have := W976.size
            have V978 := V976.as [.int 47, .int c605, i0, i0, i0, i0] rfl
            refine oD 281 X976 at_280 rfl rfl <| oc 282 (v := 2) X976 at_281 rfl (by decide) <| oi 284 X976 at_282 rfl rfl ?_
            have f980 := f977.wr W976
            refine sC 285 2 c607 X976 V978 (by decide) (lb rfl) (own_nc2 ce608) at_284 rfl (by omega) (Or.inr (by omega)) (sx X976 f980 nc0) ?_
            rintro _ _ X979 ⟨_, _, W979⟩ C979 V979
            have := W979.size
            have V981 := V979.as [.int 47, .int c605, .int c607, i0, i0, i0] rfl
            refine oD 286 X979 at_285 rfl rfl <| oc 287 (v := 3) X979 at_286 rfl (by decide) <| oi 289 X979 at_287 rfl rfl ?_
            have f983 := f980.wr W979
            refine sC 290 3 c609 X979 V981 (by decide) (lb rfl) (own_nc2 ce610) at_289 rfl (by omega) (Or.inr (by omega)) (sx X979 f983 nc0) ?_
            rintro _ _ X982 ⟨_, _, W982⟩ C982 V982
            have := W982.size
            have V984 := V982.as [.int 47, .int c605, .int c607, .int c609, i0, i0] rfl
            refine oD 291 X982 at_290 rfl rfl <| oc 292 (v := 4) X982 at_291 rfl (by decide) <| ob 294 (v := 47) X982 at_292 rfl (by decide) ?_
            have f986 := f983.wr W982
            refine sC 295 4 47 X982 V984 (by decide) (lb rfl) (by decide) at_294 rfl (by omega) (Or.inr (by omega)) (sx X982 f986 nc0) ?_
            rintro _ _ X985 ⟨_, _, W985⟩ C985 V985
            have := W985.size
            have V987 := V985.as [.int 47, .int c605, .int c607, .int c609, .int 47, i0] rfl
            refine oD 296 X985 at_295 rfl rfl <| oc 297 (v := 5) X985 at_296 rfl (by decide) <| ob 299 (v := 42) X985 at_297 rfl (by decide) ?_
            have f989 := f986.wr W985
            refine sC 300 5 42 X985 V987 (by decide) (lb rfl) (by decide) at_299 rfl (by omega) (Or.inr (by omega)) (sx X985 f989 nc0) ?_
            rintro _ _ X988 ⟨_, _, W988⟩ C988 V988
            have := W988.size
            have V990 := V988.as [.int 47, .int c605, .int c607, .int c609, .int 47, .int 42] rfl
            have f991 := ((((((A969.ext E972).wr W974).wr W976).wr W979).wr W982).wr W985).wr W988
            have f992 := ((((((f971.ext E972).oth W974 (by omega)).oth W976 (by omega)).oth W979 (by omega)).oth W982 (by omega)).oth W985 (by omega)).oth W988 (by omega)
            have f993 := ((((((f970.ext E972).oth W974 (by omega)).oth W976 (by omega)).oth W979 (by omega)).oth W982 (by omega)).oth W985 (by omega)).oth W988 (by omega)
            have f994 := C988.safe (own_lt (by omega)) (C985.safe (own_lt (by omega)) (C982.safe (own_lt (by omega)) (C979.safe (own_lt (by omega)) (C976.safe (own_lt (by omega)) (C974.safe (own_lt (by omega)) (C972.safe (own_lt (by omega)) S969))))))
            refine mP 303 1 X988 (rm_au243 G f991 f992 f993 V990 (own_sm ce606 hc612) (own_sm ce608 hc721) (own_sm ce610 hc830) (by omega)) (u1 G) (sS (by omega) f994 all0) at_300 rfl rfl rfl lr (by decide) (aR (by omega) all0) ?_
            rintro _ _ _ _ X995 ⟨_, _, rfl, q998, q999, q1000, q1001, _, _, _⟩ K995 _ _
            refine oU 305 (l' := #[ii p1, ii p2, ii p3, ii 3, ii c605, ii c607, ii c609, rr b939, rr b969, uu]) X995 at_303 rfl rfl rfl <| oa 307 X995 at_305 rfl rfl ?_
            have f1005 := ((((((((q962.ext E969).ext E972).wr W974).wr W976).wr W979).wr W982).wr W985).wr W988).keep K995
            have f1006 := ((((((((q963.ext E969).ext E972).oth W974 (by omega)).oth W976 (by omega)).oth W979 (by omega)).oth W982 (by omega)).oth W985 (by omega)).oth W988 (by omega)).k1 K995 (by omega)
            have f1007 := ((((((((q964.ext E969).ext E972).oth W974 (by omega)).oth W976 (by omega)).oth W979 (by omega)).oth W982 (by omega)).oth W985 (by omega)).oth W988 (by omega)).k1 K995 (by omega)
            have f1008 := ((((((((q965.ext E969).ext E972).oth W974 (by omega)).oth W976 (by omega)).oth W979 (by omega)).oth W982 (by omega)).oth W985 (by omega)).oth W988 (by omega)).k1 K995 (by omega)
            have f1009 := ((((((((q966.ext E969).ext E972).wr W974).wr W976).wr W979).wr W982).wr W985).wr W988).keep K995
            refine mS 310 0 X995 (rm_au258 G f1005 f1006 f1007 f1008 f1009) (u28 G) all0 at_307 rfl rfl rfl lr (by decide) all0 ?_
            rintro _ _ _ _ X1010 ⟨xa1_1011, _, _, _, rfl, q1015, q1016, q1017, q1018, q1019, q1020, q1021, _, q1023, _, _, _⟩ K1010 _ _
            refine oU 312 (l' := #[ii p1, ii p2, ii p3, ii 3, ii c605, ii c607, ii c609, rr b939, rr b969, rr xa1_1011]) X1010 at_310 rfl rfl rfl <| oa 314 X1010 at_312 rfl rfl <| mV 317 0 X1010 q1015 (rm_au35 G q1017) (u29 G) all0 at_314 rfl rfl rfl lr (by decide) all0 ?_
            rintro _ _ _ _ X1027 rfl K1027 _ _
            refine oa 319 X1027 at_317 rfl rfl ?_
            have f1028 := q1020.k0 K1027
            have f1029 := q1021.k0 K1027
            have f1030 := (q998.keep K1010).keep K1027
            have f1031 := (q999.k0 K1010).k0 K1027
            have f1032 := (q1000.k0 K1010).k0 K1027
            have f1033 := q1023.k0 K1027
            have f1034 := (q1001.k0 K1010).k0 K1027
            have f1035 := q1019.keep K1027
            refine mV 322 0 X1027 f1035 (rm_au260 G f1028 f1029 f1030 f1031 f1032 f1033 f1034 (by decide) (by decide) (by decide) (by decide) (by omega)) (u31 G) all0 at_319 rfl rfl rfl lr (by decide) all0 ?_
            rintro _ _ _ _ X1036 rfl K1036 _ _
            refine on 325 X1036 at_322 rfl ((if0 _ _).trans (feq (by decide)).1) <| oa 327 X1036 at_325 rfl rfl ?_
            have f1037 := (q1016.k0 K1027).k0 K1036
            have f1038 := (q1015.keep K1027).keep K1036
            refine mV 330 0 X1036 f1038 (rm_au38 G f1037) (u32 G) all0 at_327 rfl rfl rfl lr (by decide) all0 ?_
            rintro _ _ _ _ X1039 rfl K1039 _ _
            refine oG 333 X1039 (w184 G) Via.refl ((sg1 G).ext X1039.old.2) at_330 rfl ?_
            intro _ X1041
            refine o_acmp 336 (same := true) X1041 at_333 rfl rfl (decide_eq_true rfl) (by decide) (by decide) <| oa 338 X1041 at_336 rfl rfl ?_
            have f1042 := ((q1018.k0 K1027).k0 K1036).k0 K1039
            have f1043 := f1038.keep K1039
            refine mV 341 0 X1041 f1043 (rm_au39 G f1042) (u33 G) all0 at_338 rfl rfl rfl lr (by decide) all0 ?_
            rintro _ _ _ _ X1044 rfl K1044 _ _
            refine oa 343 X1044 at_341 rfl rfl ?_
            have f1045 := ((((f1005.keep K1010).keep K1027).keep K1036).keep K1039).keep K1044
            refine mV 346 0 X1044 f1045 (rm_au40 G ) (u31 G) all0 at_343 rfl rfl rfl lr (by decide) all0 ?_
            rintro _ _ _ _ X1046 rfl _ _ _
            refine on 349 X1046 at_346 rfl ((if0 _ _).trans (feq (by decide)).1) <| oc 350 (v := 1) X1046 at_349 rfl (by decide) <| og 354 X1046 at_350 (by decide) ?_
            exact o_nret (y := (1 : Int32)) (t := .boolean) X1046 at_354 rfl (by decide) (by simp) (by decide) (by decide) (fun _ CC => rfl)
end Walks
set_option maxRecDepth 65536 in
set_option maxHeartbeats 40000000 in
theorem comes_1 {Post : Tables → Env → Array Value → State → Outcome → State → Prop} (hpost : ∀ tb e args s v u, (limb_1_1.after args s (.returned v) u = true ∧ limb_1_2.after args s (.returned v) u = true ∧ True) → ReturnedEndW s (.returned v) u (Jvm.fieldLocs frame_1_writes args s ++ Jvm.arrayLocs frame_1_arrays args s ++ Jvm.staticLocs frame_1_statics s) 40 2368 → Post tb e args s (.returned v) u) :
    ArmFor flags0 classFile x code maxLocals ret World_1 tables_1 room_1 Calls_1 rest_1 Pre_1 Post := by
  intro l hfl _ _ p e ha hc hk s m args below hf hA hF happ hP
  obtain ⟨hcalls, hrest, hpre⟩ := hP
  obtain ⟨-, -, -, hnamed, -, -, -, hat⟩ := (Spec.applies_iff hf).mp happ
  obtain ⟨hg, hn⟩ := and_e (Cond.before_iff.mp (show (Jvm.Cond.and given_1 narrow_1).before args s = true from hpre))
  obtain ⟨g0, gt0⟩ := and_e hg
  obtain ⟨ga0, gt1⟩ := and_e gt0
  obtain ⟨ga1, gt2⟩ := and_e gt1
  obtain ⟨v0, v1, v2, rfl⟩ : ∃ v0 v1 v2 : Value, args = #[v0, v1, v2] := by
    have hs : args.size = 3 := by simpa [Cond.value, given_1] using g0
    obtain ⟨L⟩ := args
    match L, hs with
    | [v0, v1, v2], _ => exact ⟨v0, v1, v2, rfl⟩
  have hw := fun d (hd : d ∈ tables_1) => atoms_spec (ws := Jvm.Cond.code x code maxLocals ret :: tables_1) hat d (List.mem_cons_of_mem _ hd)
  have hfit : Fit s := fun {y c} hc i hi => by
    obtain ⟨ha, rfl⟩ := Array.getElem?_eq_some_iff.mp hc
    have q := List.all_eq_true.mp ((Array.all_eq_true_iff_forall_mem.mp hF) _ (Array.getElem_mem ha)) i (List.mem_range.mpr hi)
    simpa [Array.getElem?_eq_getElem hi] using q
  obtain ⟨hsets, hown0⟩ := atoms_of _ (rest_1_c_eq ▸ (show rest_1_c.before _ s = true from hrest))
  obtain ⟨i0, ei0⟩ := is_v ga0
  obtain rfl : v0 = (.int i0) := Option.some.inj ei0
  obtain ⟨i1, ei1⟩ := is_v ga1
  obtain rfl : v1 = (.int i1) := Option.some.inj ei1
  obtain ⟨i2, ei2⟩ := is_v gt2
  obtain rfl : v2 = (.int i2) := Option.some.inj ei2
  obtain ⟨zc, ezc⟩ := is_v (Cond.before_iff.mp (hsets _ (List.mem_of_getElem? (i := 1) rfl)))
  have S_zc : Sta s s.heap "java/lang/String" "COMPACT_STRINGS" "Z" (.int zc) := Sta.start ezc (Or.inl (hsets _ (List.mem_of_getElem? (i := 0) rfl)))
  have hzc : ¬ (zc = (0 : Int32)) := gotF (Cond.eq_ints ezc (Term.int_eval (0))) (not_v (Cond.before_iff.mp (hsets _ (List.mem_of_getElem? (i := 2) rfl))))
  have hEW := (EW.cons (w_105 hw) (by decide) (EW.cons (w_15 hw) (by decide) EW.nil))
  have hCH0 : CHv s [("com/example/web_whiteboard/webwhiteboard/context/ServletPattern", 61), ("java/lang/String", 7)] s.vm s.heap := CHv.start hEW (fun p hp => hcalls.1 p hp) (hsets _ (List.mem_of_getElem? (i := 2) rfl)) (w_16 hw) (w_2 hw)
  have hKn0 : KnP false s.vm below := fun q => nomatch q
  obtain ⟨fmt, efmt, hfmt⟩ := Cond.isRef_spec (hsets _ (List.mem_of_getElem? (i := 8) rfl))
  have S_fmt := Sta.start efmt (Or.inl (hsets _ (List.mem_of_getElem? (i := 7) rfl)))
  obtain ⟨kpp, ekpp⟩ := exa_v hn
  have S_kpp : Sta s s.heap "com/example/web_whiteboard/webwhiteboard/context/ServletPattern$Kind" "PATH_PREFIX" "Lcom/example/web_whiteboard/webwhiteboard/context/ServletPattern$Kind;" (.ref kpp) := Sta.start ekpp (Or.inr ⟨(w_152 hw), (w_153 hw)⟩)
  have S_ad : Sta s s.heap "java/lang/StringUTF16" "$assertionsDisabled" "Z" (.int (1 : Int32)) := Sta.start (Cond.eq_int (show (Cond.eq (Term.static "java/lang/StringUTF16" "$assertionsDisabled" "Z") (.int (1))).holds _ s none s [] = true from (hsets _ (List.mem_of_getElem? (i := 12) rfl))) rfl) (Or.inl (hsets _ (List.mem_of_getElem? (i := 11) rfl)))
  have S_hi : Sta s s.heap "java/lang/StringUTF16" "HI_BYTE_SHIFT" "I" (.int (0 : Int32)) := Sta.start (Cond.eq_int (show (Cond.eq (Term.static "java/lang/StringUTF16" "HI_BYTE_SHIFT" "I") (.int (0))).holds _ s none s [] = true from (hsets _ (List.mem_of_getElem? (i := 15) rfl))) rfl) (Or.inl (hsets _ (List.mem_of_getElem? (i := 14) rfl)))
  have S_lo : Sta s s.heap "java/lang/StringUTF16" "LO_BYTE_SHIFT" "I" (.int (8 : Int32)) := Sta.start (Cond.eq_int (show (Cond.eq (Term.static "java/lang/StringUTF16" "LO_BYTE_SHIFT" "I") (.int (8))).holds _ s none s [] = true from (hsets _ (List.mem_of_getElem? (i := 18) rfl))) rfl) (Or.inl (hsets _ (List.mem_of_getElem? (i := 17) rfl)))
  obtain ⟨n, o, h1, h2, h3, _, L, rfl, ⟨N, -, rfl⟩, -, hq⟩ := rm_law (G := (⟨hw, S_zc, hzc, hEW, S_fmt, hfmt, S_kpp, S_ad, S_hi, S_lo⟩ : GL l s _ zc fmt kpp)) tables_1 i0 i1 i2 (Old.start s) p e ha hc hk s m _ below hf ((Spec.applies_iff_loose hf).mp happ).1 ⟨rfl, State.Warmed39.refl s, rfl, hCH0, fun _ q => nomatch q⟩ hKn0
  refine ⟨n, _, h1, h2, h3, hpost _ _ _ _ _ _ ⟨Cond.after_iff.mpr rfl, Cond.after_iff.mpr (eq_i res_at (Term.int_eval (1)) rfl), trivial⟩ ⟨hq.1, hq.2.1, hq.2.2.1, (hq.2.2.2.sift fun y hy => Or.inr (N y hy)).mono (by decide) (by decide)⟩⟩
theorem main_1_1 : Claimed_1_1 := comes_1 fun _ _ _ _ _ _ h hF => ⟨h.1, hF⟩
theorem main_1_2 : Claimed_1_2 := comes_1 fun _ _ _ _ _ _ h hF => ⟨h.2.1, hF⟩
end Jvm.Pilot.@@N@@
namespace Jvm.Pilot.@@N@@
open Jvm Jvm.ClassFile Sem Op Lib Jvm.Free Jvm.Stand Jvm.Pilot.@@N@@.Jvm.D
/-! MADE BY PROGRAM (witnessworld.py) out of the Statement's table words and the real class files: 26 classes; the members and pool entries that the words name. The judged class is class 1, her method 1. -/
namespace start1
open Jvm.ClassFile
def u (s : String) : CpInfo := .utf8 (stringToUtf16 s)
/-- a pool by its gaps: so many unusable entries, then the entry; so many at the end -/
def gap : Nat → List CpInfo → List CpInfo
  | 0, r => r
  | n + 1, r => .unusable :: gap n r
def poolList (es : List (Nat × CpInfo)) (last : Nat) : List CpInfo := es.foldr (fun e r => gap e.1 (e.2 :: r)) (gap last [])
def pool (es : List (Nat × CpInfo)) (last : Nat) : Array CpInfo := ⟨poolList es last⟩
def fileOf (pool : Array CpInfo) (this : Nat) (attrs : Array Attribute := #[]) (ms : Array MethodInfo := #[]) (fl : Nat := 33) (sup : Nat := 0) (ifs : Array Nat := #[]) (fds : Array FieldInfo := #[]) : ClassFile where
  minorVersion := 0
  majorVersion := 65
  constantPool := pool
  accessFlags := fl
  thisClass := this
  superClass := sup
  interfaces := ifs
  fields := fds
  methods := ms
  attributes := attrs
def plain (name : String) (sup : Option ClassId) : Class where
  name := name
  kind := .ordinary
  loader := none
  accessFlags := 33
  super := sup
  interfaces := #[]
  cf := none
  fields := #[]
  methods := #[]
  instanceTypes := #[]
  staticTypes := #[]
  resolved := #[]
  callSites := []
  init := .initialized
  statics := none
  mirror := none

def pool0 : Array CpInfo := pool [(5, u "<init>"), (0, u "()V"), (1, .class_ 10), (1, u "java/lang/Object")] 113

def k0c0 : Code := ⟨0, 1, object_method_1_code, #[], #[]⟩
def k0m0 : Method := ⟨"<init>", "()V", ⟨[], none⟩, 1, some k0c0⟩
/-- java/lang/Object -/
def k0 : Class := { plain "java/lang/Object" none with
  accessFlags := 33
  interfaces := #[]
  cf := some (fileOf pool0 8 #[] #[⟨1, 5, 6, #[]⟩] 33 0 #[] #[])
  fields := #[]
  methods := #[k0m0]
  instanceTypes := #[]
  staticTypes := #[]
  resolved := Array.replicate 124 none
  statics := none }

def pool1 : Array CpInfo := pool [(2, .class_ 4), (1, u "java/lang/Object"), (0, u "<init>"), (0, u "()V"), (0, .integer 65535), (0, .class_ 9), (0, u "java/lang/String"), (0, .methodref 8 11), (0, .nameAndType 5 12), (0, u "([C)V"), (0, .methodref 14 15), (0, .class_ 16), (0, .nameAndType 17 18), (0, u "com/example/web_whiteboard/webwhiteboard/context/ServletPattern"), (0, u "below"), (0, u "(Ljava/lang/String;)Lcom/example/web_whiteboard/webwhiteboard/context/ServletPattern;"), (0, .methodref 14 20), (0, .nameAndType 21 22), (0, u "getPattern"), (0, u "()Ljava/lang/String;"), (0, .methodref 8 24), (0, .nameAndType 25 26), (0, u "equals"), (0, u "(Ljava/lang/Object;)Z"), (0, .methodref 14 28), (0, .nameAndType 29 30), (0, u "getKind"), (0, u "()Lcom/example/web_whiteboard/webwhiteboard/context/ServletPattern$Kind;"), (0, .fieldref 32 33), (0, .class_ 34), (0, .nameAndType 35 36), (0, u "com/example/web_whiteboard/webwhiteboard/context/ServletPattern$Kind"), (0, u "PATH_PREFIX"), (0, u "Lcom/example/web_whiteboard/webwhiteboard/context/ServletPattern$Kind;"), (0, .methodref 14 38), (0, .nameAndType 39 22), (0, u "getStem"), (0, .class_ 41), (0, u "com/example/web_whiteboard/webwhiteboard/context/ServletPatternBelowPinLaw"), (2, u "law"), (0, u "(III)Z")] 5

def k1m0 : Method := ⟨"<init>", "()V", ⟨[], none⟩, 1, none⟩
def k1c1 : Code := ⟨6, 10, code, #[], #[]⟩
def k1m1 : Method := ⟨"law", "(III)Z", ⟨[.int, .int, .int], some .boolean⟩, 9, some k1c1⟩
/-- com/example/web_whiteboard/webwhiteboard/context/ServletPatternBelowPinLaw -/
def k1 : Class := { plain "com/example/web_whiteboard/webwhiteboard/context/ServletPatternBelowPinLaw" (some 0) with
  accessFlags := 49
  interfaces := #[]
  cf := some (fileOf pool1 40 #[] #[⟨1, 5, 6, #[]⟩, ⟨9, 44, 45, #[]⟩] 49 2 #[] #[])
  fields := #[]
  methods := #[k1m0, k1m1]
  instanceTypes := #[]
  staticTypes := #[]
  resolved := Array.replicate 51 none
  statics := none }

def pool2 : Array CpInfo := pool [(1, .class_ 2), (0, u "java/io/Serializable"), (0, .class_ 4), (0, u "java/lang/Object")] 2

/-- java/io/Serializable -/
def k2 : Class := { plain "java/io/Serializable" (some 0) with
  accessFlags := 1537
  interfaces := #[]
  cf := some (fileOf pool2 1 #[] #[] 1537 3 #[] #[])
  fields := #[]
  methods := #[]
  instanceTypes := #[]
  staticTypes := #[]
  resolved := Array.replicate 7 none
  statics := none }

def pool3 : Array CpInfo := pool [(1, .class_ 2), (0, u "java/lang/Comparable"), (0, .class_ 4), (0, u "java/lang/Object")] 7

/-- java/lang/Comparable -/
def k3 : Class := { plain "java/lang/Comparable" (some 0) with
  accessFlags := 1537
  interfaces := #[]
  cf := some (fileOf pool3 1 #[] #[] 1537 3 #[] #[])
  fields := #[]
  methods := #[]
  instanceTypes := #[]
  staticTypes := #[]
  resolved := Array.replicate 12 none
  statics := none }

def pool4 : Array CpInfo := pool [(2, .class_ 4), (1, u "java/lang/CharSequence"), (42, .class_ 48), (0, u "java/lang/CharSequence$1CodePointIterator"), (10, .class_ 60), (0, u "java/lang/CharSequence$1CharIterator"), (5, .class_ 67), (0, u "java/lang/Object")] 63

/-- java/lang/CharSequence -/
def k4 : Class := { plain "java/lang/CharSequence" (some 0) with
  accessFlags := 1537
  interfaces := #[]
  cf := some (fileOf pool4 2 #[.nestMembers #[47, 59]] #[] 1537 66 #[] #[])
  fields := #[]
  methods := #[]
  instanceTypes := #[]
  staticTypes := #[]
  resolved := Array.replicate 131 none
  statics := none }

def pool5 : Array CpInfo := pool [(1, .class_ 2), (0, u "java/lang/constant/Constable"), (0, .class_ 4), (0, u "java/lang/Object")] 6

/-- java/lang/constant/Constable -/
def k5 : Class := { plain "java/lang/constant/Constable" (some 0) with
  accessFlags := 1537
  interfaces := #[]
  cf := some (fileOf pool5 1 #[] #[] 1537 3 #[] #[])
  fields := #[]
  methods := #[]
  instanceTypes := #[]
  staticTypes := #[]
  resolved := Array.replicate 11 none
  statics := none }

def pool6 : Array CpInfo := pool [(1, .class_ 2), (0, u "java/lang/constant/ConstantDesc"), (0, .class_ 4), (0, u "java/lang/Object")] 32

/-- java/lang/constant/ConstantDesc -/
def k6 : Class := { plain "java/lang/constant/ConstantDesc" (some 0) with
  accessFlags := 1537
  interfaces := #[]
  cf := some (fileOf pool6 1 #[] #[] 1537 3 #[] #[])
  fields := #[]
  methods := #[]
  instanceTypes := #[]
  staticTypes := #[]
  resolved := Array.replicate 37 none
  statics := none }

def pool7 : Array CpInfo := pool [(1, .methodref 2 3), (0, .class_ 4), (0, .nameAndType 5 6), (0, u "java/lang/Object"), (0, u "<init>"), (0, u "()V"), (0, .string 8), (0, u ""), (0, .fieldref 10 11), (0, .class_ 12), (0, .nameAndType 13 14), (0, u "java/lang/String"), (0, u "value"), (0, u "[B"), (0, .fieldref 10 16), (0, .nameAndType 17 18), (0, u "coder"), (0, u "B"), (2, u "hash"), (0, u "I"), (2, u "hashIsZero"), (0, u "Z"), (0, .methodref 10 28), (0, .nameAndType 5 29), (0, u "([CIILjava/lang/Void;)V"), (6, u "checkBoundsOffCount"), (0, u "(III)I"), (0, .fieldref 10 39), (0, .nameAndType 40 26), (0, u "COMPACT_STRINGS"), (1, .class_ 44), (1, u "java/lang/StringUTF16"), (0, u "compress"), (1, .methodref 42 48), (0, .nameAndType 49 50), (0, u "coderFromArrayLen"), (0, u "([BI)B"), (3, .methodref 55 56), (0, .class_ 57), (0, .nameAndType 58 59), (0, u "java/util/Arrays"), (0, u "copyOfRange"), (0, u "([BII)[B"), (46, .methodref 107 108), (0, .class_ 109), (0, .nameAndType 110 111), (0, u "java/lang/StringLatin1"), (0, u "inflate"), (0, u "([BI[BII)V"), (30, u "()Z"), (34, .methodref 42 178), (0, .nameAndType 45 179), (0, u "([CII)[B"), (13, .class_ 195), (1, u "java/lang/System"), (16, .methodref 193 213), (0, .nameAndType 214 215), (0, u "arraycopy"), (0, u "(Ljava/lang/Object;ILjava/lang/Object;II)V"), (118, u "()I"), (0, .methodref 10 336), (0, .nameAndType 17 337), (0, u "()B"), (2, u "()[B"), (148, .methodref 10 490), (0, .nameAndType 5 491), (0, u "(Ljava/lang/AbstractStringBuilder;Ljava/lang/Void;)V"), (1, .nameAndType 494 142), (0, u "isLatin1"), (11, .nameAndType 507 334), (0, u "length"), (24, u "getBytes"), (8, .methodref 107 542), (0, .nameAndType 543 544), (0, u "equals"), (0, u "([B[B)Z"), (4, .methodref 550 506), (0, .class_ 551), (0, u "java/lang/AbstractStringBuilder"), (0, .methodref 550 553), (0, .nameAndType 554 340), (0, u "getValue"), (18, u "(Ljava/lang/Object;)Z"), (1, .class_ 576), (0, u "java/lang/CharSequence"), (22, u "CASE_INSENSITIVE_ORDER"), (0, u "Ljava/util/Comparator;"), (220, u "([BIB)V"), (188, u "([C)V"), (36, .methodref 550 493), (0, .fieldref 550 1049), (0, .nameAndType 1050 26), (0, u "maybeLatin1"), (2, .fieldref 1054 1055), (0, .class_ 1056), (0, .nameAndType 1057 1058), (0, u "jdk/internal/util/Preconditions"), (0, u "SIOOBE_FORMATTER"), (0, u "Ljava/util/function/BiFunction;"), (5, u "(IIILjava/util/function/BiFunction;)I"), (0, .methodref 1054 1066), (0, .nameAndType 1067 1064), (0, u "checkFromIndexSize"), (33, u "serialPersistentFields"), (0, u "[Ljava/io/ObjectStreamField;"), (0, .class_ 1104), (0, u "java/lang/String$CaseInsensitiveComparator"), (1, .class_ 1107), (0, u "java/io/Serializable"), (0, .class_ 1109), (0, u "java/lang/Comparable"), (0, .class_ 1111), (0, u "java/lang/constant/Constable"), (0, .class_ 1113), (0, u "java/lang/constant/ConstantDesc"), (2, u "serialVersionUID"), (0, u "J"), (3, u "REPL"), (0, u "C"), (2, u "LATIN1"), (1, u "UTF16"), (105, u "(Ljava/lang/StringBuilder;)V")] 217

def k7m0 : Method := ⟨"<init>", "()V", ⟨[], none⟩, 1, none⟩
def k7c1 : Code := ⟨5, 2, jdk_42_method_3_code, #[], #[]⟩
def k7m1 : Method := ⟨"<init>", "([C)V", ⟨[(.array .char)], none⟩, 1, some k7c1⟩
def k7c2 : Code := ⟨3, 2, jdk_42_method_53_code, #[], #[]⟩
def k7m2 : Method := ⟨"<init>", "(Ljava/lang/StringBuilder;)V", ⟨[(.object "java/lang/StringBuilder")], none⟩, 1, some k7c2⟩
def k7c3 : Code := ⟨2, 1, jdk_42_method_54_code, #[], #[]⟩
def k7m3 : Method := ⟨"length", "()I", ⟨[], some .int⟩, 1, some k7c3⟩
def k7c4 : Code := ⟨2, 3, jdk_42_method_66_code, #[], #[]⟩
def k7m4 : Method := ⟨"equals", "(Ljava/lang/Object;)Z", ⟨[(.object "java/lang/Object")], some .boolean⟩, 1, some k7c4⟩
def k7c5 : Code := ⟨5, 4, jdk_42_method_147_code, #[], #[]⟩
def k7m5 : Method := ⟨"getBytes", "([BIB)V", ⟨[(.array .byte), .int, .byte], none⟩, 0, some k7c5⟩
def k7c6 : Code := ⟨4, 6, jdk_42_method_149_code, #[], #[]⟩
def k7m6 : Method := ⟨"<init>", "([CIILjava/lang/Void;)V", ⟨[(.array .char), .int, .int, (.object "java/lang/Void")], none⟩, 2, some k7c6⟩
def k7c7 : Code := ⟨5, 5, jdk_42_method_150_code, #[], #[]⟩
def k7m7 : Method := ⟨"<init>", "(Ljava/lang/AbstractStringBuilder;Ljava/lang/Void;)V", ⟨[(.object "java/lang/AbstractStringBuilder"), (.object "java/lang/Void")], none⟩, 0, some k7c7⟩
def k7c8 : Code := ⟨1, 1, jdk_42_method_152_code, #[], #[]⟩
def k7m8 : Method := ⟨"coder", "()B", ⟨[], some .byte⟩, 0, some k7c8⟩
def k7c9 : Code := ⟨4, 3, jdk_42_method_157_code, #[], #[]⟩
def k7m9 : Method := ⟨"checkBoundsOffCount", "(III)I", ⟨[.int, .int, .int], some .int⟩, 8, some k7c9⟩
/-- java/lang/String -/
def k7 : Class := { plain "java/lang/String" (some 0) with
  accessFlags := 49
  interfaces := #[2, 3, 4, 5, 6]
  cf := some (fileOf pool7 10 #[.nestMembers #[1103]] #[⟨1, 5, 6, #[]⟩, ⟨1, 5, 1010, #[]⟩, ⟨1, 5, 1233, #[]⟩, ⟨1, 507, 334, #[]⟩, ⟨1, 543, 573, #[]⟩, ⟨0, 532, 821, #[]⟩, ⟨2, 5, 29, #[]⟩, ⟨0, 5, 491, #[]⟩, ⟨0, 17, 337, #[]⟩, ⟨8, 36, 37, #[]⟩] 49 2 #[1106, 1108, 575, 1110, 1112] #[⟨18, 13, 14, #[]⟩, ⟨18, 17, 18, #[]⟩, ⟨2, 21, 22, #[]⟩, ⟨2, 25, 26, #[]⟩, ⟨26, 1116, 1117, #[]⟩, ⟨24, 40, 26, #[]⟩, ⟨26, 1101, 1102, #[]⟩, ⟨26, 1121, 1122, #[]⟩, ⟨25, 599, 600, #[]⟩, ⟨24, 1125, 18, #[]⟩, ⟨24, 1127, 18, #[]⟩])
  fields := #[⟨"value", (.array .byte), 18, 0, 0⟩, ⟨"coder", .byte, 18, 1, 0⟩, ⟨"hash", .int, 2, 2, 0⟩, ⟨"hashIsZero", .boolean, 2, 3, 0⟩, ⟨"serialVersionUID", .long, 26, 0, 0⟩, ⟨"COMPACT_STRINGS", .boolean, 24, 1, 0⟩, ⟨"serialPersistentFields", (.array (.object "java/io/ObjectStreamField")), 26, 2, 0⟩, ⟨"REPL", .char, 26, 3, 0⟩, ⟨"CASE_INSENSITIVE_ORDER", (.object "java/util/Comparator"), 25, 4, 0⟩, ⟨"LATIN1", .byte, 24, 5, 0⟩, ⟨"UTF16", .byte, 24, 6, 0⟩]
  methods := #[k7m0, k7m1, k7m2, k7m3, k7m4, k7m5, k7m6, k7m7, k7m8, k7m9]
  instanceTypes := #[(.array .byte), .byte, .int, .boolean]
  staticTypes := #[.long, .boolean, (.array (.object "java/io/ObjectStreamField")), .char, (.object "java/util/Comparator"), .byte, .byte]
  resolved := Array.replicate 1451 none
  statics := some 0 }

def pool8 : Array CpInfo := pool [(3, .class_ 4), (0, u "java/lang/String"), (1, .class_ 8), (1, u "java/lang/Object"), (0, u "<init>"), (0, u "()V"), (0, .methodref 12 13), (0, .class_ 14), (0, .nameAndType 15 16), (0, u "java/lang/StringUTF16"), (0, u "newBytesLength"), (0, u "(I)I"), (3, .integer 1073741823), (23, .fieldref 12 45), (0, .nameAndType 46 47), (0, u "$assertionsDisabled"), (0, u "Z"), (0, .methodref 12 49), (0, .nameAndType 50 51), (0, u "length"), (0, u "([B)I"), (7, .fieldref 12 60), (0, .nameAndType 61 62), (0, u "HI_BYTE_SHIFT"), (0, u "I"), (0, .fieldref 12 64), (0, .nameAndType 65 62), (0, u "LO_BYTE_SHIFT"), (5, .methodref 12 72), (0, .nameAndType 73 74), (0, u "getChar"), (0, u "([BI)C"), (24, u "(II[B)V"), (7, .methodref 12 108), (0, .nameAndType 109 110), (0, u "newBytesFor"), (0, u "(I)[B"), (0, .methodref 12 112), (0, .nameAndType 113 114), (0, u "putChar"), (0, u "([BII)V"), (0, .methodref 12 116), (0, .nameAndType 117 118), (0, u "compress"), (0, u "([CI[BII)I"), (0, .methodref 12 120), (0, .nameAndType 121 122), (0, u "toBytes"), (0, u "([CII)[B"), (17, u "inflate"), (0, u "([BI[BII)V"), (31, .methodref 12 174), (0, .nameAndType 175 99), (0, u "checkBoundsOffCount"), (85, u "coderFromArrayLen"), (0, u "([BI)B"), (18, u "(III)I"), (87, .class_ 371), (1, u "java/lang/StringUTF16$LinesSpliterator"), (47, .methodref 3 420), (0, .nameAndType 175 281), (9, u "MAX_LENGTH"), (196, .class_ 628), (0, u "java/lang/StringUTF16$CodePointsSpliterator"), (0, .class_ 630), (0, u "java/lang/StringUTF16$CharsSpliterator")] 4

def k8m0 : Method := ⟨"<init>", "()V", ⟨[], none⟩, 0, none⟩
def k8c1 : Code := ⟨1, 1, jdk_52_method_2_code, #[], #[]⟩
def k8m1 : Method := ⟨"newBytesFor", "(I)[B", ⟨[.int], some (.array .byte)⟩, 9, some k8c1⟩
def k8c2 : Code := ⟨4, 1, jdk_52_method_3_code, #[], #[]⟩
def k8m2 : Method := ⟨"newBytesLength", "(I)I", ⟨[.int], some .int⟩, 9, some k8c2⟩
def k8c3 : Code := ⟨4, 3, jdk_52_method_4_code, #[], #[]⟩
def k8m3 : Method := ⟨"putChar", "([BII)V", ⟨[(.array .byte), .int, .int], none⟩, 8, some k8c3⟩
def k8c4 : Code := ⟨3, 2, jdk_52_method_5_code, #[], #[]⟩
def k8m4 : Method := ⟨"getChar", "([BI)C", ⟨[(.array .byte), .int], some .char⟩, 8, some k8c4⟩
def k8c5 : Code := ⟨2, 1, jdk_52_method_6_code, #[], #[]⟩
def k8m5 : Method := ⟨"length", "([B)I", ⟨[(.array .byte)], some .int⟩, 9, some k8c5⟩
def k8c6 : Code := ⟨4, 5, jdk_52_method_14_code, #[], #[]⟩
def k8m6 : Method := ⟨"toBytes", "([CII)[B", ⟨[(.array .char), .int, .int], some (.array .byte)⟩, 9, some k8c6⟩
def k8c7 : Code := ⟨2, 2, jdk_52_method_15_code, #[], #[]⟩
def k8m7 : Method := ⟨"coderFromArrayLen", "([BI)B", ⟨[(.array .byte), .int], some .byte⟩, 8, some k8c7⟩
def k8c8 : Code := ⟨5, 6, jdk_52_method_16_code, #[], #[]⟩
def k8m8 : Method := ⟨"compress", "([CII)[B", ⟨[(.array .char), .int, .int], some (.array .byte)⟩, 9, some k8c8⟩
def k8c9 : Code := ⟨3, 7, jdk_52_method_21_code, #[], #[]⟩
def k8m9 : Method := ⟨"compress", "([CI[BII)I", ⟨[(.array .char), .int, (.array .byte), .int, .int], some .int⟩, 9, some k8c9⟩
def k8c10 : Code := ⟨4, 6, jdk_52_method_86_code, #[], #[]⟩
def k8m10 : Method := ⟨"inflate", "([BI[BII)V", ⟨[(.array .byte), .int, (.array .byte), .int, .int], none⟩, 9, some k8c10⟩
def k8c11 : Code := ⟨3, 3, jdk_52_method_94_code, #[], #[]⟩
def k8m11 : Method := ⟨"checkBoundsOffCount", "(II[B)V", ⟨[.int, .int, (.array .byte)], none⟩, 9, some k8c11⟩
/-- java/lang/StringUTF16 -/
def k8 : Class := { plain "java/lang/StringUTF16" (some 0) with
  accessFlags := 48
  interfaces := #[]
  cf := some (fileOf pool8 12 #[.nestMembers #[627, 629, 369]] #[⟨0, 9, 10, #[]⟩, ⟨9, 109, 110, #[]⟩, ⟨9, 15, 16, #[]⟩, ⟨8, 113, 114, #[]⟩, ⟨8, 73, 74, #[]⟩, ⟨9, 50, 51, #[]⟩, ⟨9, 121, 122, #[]⟩, ⟨8, 261, 262, #[]⟩, ⟨9, 117, 122, #[]⟩, ⟨9, 117, 118, #[]⟩, ⟨9, 140, 141, #[]⟩, ⟨9, 175, 99, #[]⟩] 48 6 #[] #[⟨26, 61, 62, #[]⟩, ⟨26, 65, 62, #[]⟩, ⟨24, 430, 62, #[]⟩, ⟨4120, 46, 47, #[]⟩])
  fields := #[⟨"HI_BYTE_SHIFT", .int, 26, 0, 0⟩, ⟨"LO_BYTE_SHIFT", .int, 26, 1, 0⟩, ⟨"MAX_LENGTH", .int, 24, 2, 0⟩, ⟨"$assertionsDisabled", .boolean, 4120, 3, 0⟩]
  methods := #[k8m0, k8m1, k8m2, k8m3, k8m4, k8m5, k8m6, k8m7, k8m8, k8m9, k8m10, k8m11]
  instanceTypes := #[]
  staticTypes := #[.int, .int, .int, .boolean]
  resolved := Array.replicate 635 none
  statics := some 1 }

def pool9 : Array CpInfo := pool [(1, .methodref 2 3), (0, .class_ 4), (0, .nameAndType 5 6), (0, u "java/lang/Object"), (0, u "<init>"), (0, u "()V"), (0, .fieldref 8 9), (0, .class_ 10), (0, .nameAndType 11 12), (0, u "com/example/web_whiteboard/webwhiteboard/context/ServletPattern"), (0, u "pattern"), (0, u "Ljava/lang/String;"), (0, .fieldref 8 14), (0, .nameAndType 15 16), (0, u "kind"), (0, u "Lcom/example/web_whiteboard/webwhiteboard/context/ServletPattern$Kind;"), (0, .fieldref 8 18), (0, .nameAndType 19 12), (0, u "stem"), (30, .class_ 52), (1, u "com/example/web_whiteboard/webwhiteboard/context/ServletPattern$Kind"), (8, .string 62), (0, u "/*"), (3, .fieldref 50 67), (0, .nameAndType 68 16), (0, u "PATH_PREFIX"), (23, .methodref 8 93), (0, .nameAndType 5 94), (0, u "(Ljava/lang/String;Lcom/example/web_whiteboard/webwhiteboard/context/ServletPattern$Kind;Ljava/lang/String;)V"), (0, .class_ 96), (0, u "java/lang/StringBuilder"), (0, .methodref 95 3), (0, .methodref 95 99), (0, .nameAndType 100 101), (0, u "append"), (0, u "(Ljava/lang/String;)Ljava/lang/StringBuilder;"), (0, .methodref 95 103), (0, .nameAndType 104 105), (0, u "toString"), (0, u "()Ljava/lang/String;"), (21, .class_ 128), (0, u "com/example/web_whiteboard/webwhiteboard/context/ServletPattern$Match"), (30, u "(Ljava/lang/String;)Lcom/example/web_whiteboard/webwhiteboard/context/ServletPattern;"), (1, u "below"), (0, u "getPattern"), (0, u "getKind"), (0, u "()Lcom/example/web_whiteboard/webwhiteboard/context/ServletPattern$Kind;"), (0, u "getStem")] 10

def k9c0 : Code := ⟨2, 4, prog_4_method_1_code, #[], #[]⟩
def k9m0 : Method := ⟨"<init>", "(Ljava/lang/String;Lcom/example/web_whiteboard/webwhiteboard/context/ServletPattern$Kind;Ljava/lang/String;)V", ⟨[(.object "java/lang/String"), (.object "com/example/web_whiteboard/webwhiteboard/context/ServletPattern$Kind"), (.object "java/lang/String")], none⟩, 2, some k9c0⟩
def k9c1 : Code := ⟨5, 1, prog_4_method_3_code, #[], #[]⟩
def k9m1 : Method := ⟨"below", "(Ljava/lang/String;)Lcom/example/web_whiteboard/webwhiteboard/context/ServletPattern;", ⟨[(.object "java/lang/String")], some (.object "com/example/web_whiteboard/webwhiteboard/context/ServletPattern")⟩, 9, some k9c1⟩
def k9c2 : Code := ⟨1, 1, prog_4_method_5_code, #[], #[]⟩
def k9m2 : Method := ⟨"getPattern", "()Ljava/lang/String;", ⟨[], some (.object "java/lang/String")⟩, 1, some k9c2⟩
def k9c3 : Code := ⟨1, 1, prog_4_method_6_code, #[], #[]⟩
def k9m3 : Method := ⟨"getKind", "()Lcom/example/web_whiteboard/webwhiteboard/context/ServletPattern$Kind;", ⟨[], some (.object "com/example/web_whiteboard/webwhiteboard/context/ServletPattern$Kind")⟩, 1, some k9c3⟩
def k9c4 : Code := ⟨1, 1, prog_4_method_7_code, #[], #[]⟩
def k9m4 : Method := ⟨"getStem", "()Ljava/lang/String;", ⟨[], some (.object "java/lang/String")⟩, 1, some k9c4⟩
/-- com/example/web_whiteboard/webwhiteboard/context/ServletPattern -/
def k9 : Class := { plain "com/example/web_whiteboard/webwhiteboard/context/ServletPattern" (some 0) with
  accessFlags := 33
  interfaces := #[]
  cf := some (fileOf pool9 8 #[.nestMembers #[127, 50]] #[⟨2, 5, 94, #[]⟩, ⟨9, 161, 159, #[]⟩, ⟨1, 162, 105, #[]⟩, ⟨1, 163, 164, #[]⟩, ⟨1, 165, 105, #[]⟩] 33 2 #[] #[⟨18, 11, 12, #[]⟩, ⟨18, 15, 16, #[]⟩, ⟨18, 19, 12, #[]⟩])
  fields := #[⟨"pattern", (.object "java/lang/String"), 18, 0, 0⟩, ⟨"kind", (.object "com/example/web_whiteboard/webwhiteboard/context/ServletPattern$Kind"), 18, 1, 0⟩, ⟨"stem", (.object "java/lang/String"), 18, 2, 0⟩]
  methods := #[k9m0, k9m1, k9m2, k9m3, k9m4]
  instanceTypes := #[(.object "java/lang/String"), (.object "com/example/web_whiteboard/webwhiteboard/context/ServletPattern$Kind"), (.object "java/lang/String")]
  staticTypes := #[]
  resolved := Array.replicate 176 none
  statics := none }

def pool10 : Array CpInfo := pool [(1, .class_ 2), (0, u "java/lang/Appendable"), (0, .class_ 4), (0, u "java/lang/Object")] 9

/-- java/lang/Appendable -/
def k10 : Class := { plain "java/lang/Appendable" (some 0) with
  accessFlags := 1537
  interfaces := #[]
  cf := some (fileOf pool10 1 #[] #[] 1537 3 #[] #[])
  fields := #[]
  methods := #[]
  instanceTypes := #[]
  staticTypes := #[]
  resolved := Array.replicate 14 none
  statics := none }

def pool11 : Array CpInfo := pool [(1, .class_ 2), (0, u "java/lang/String"), (0, .methodref 4 5), (0, .class_ 6), (0, .nameAndType 7 8), (0, u "java/lang/Object"), (0, u "<init>"), (0, u "()V"), (1, .class_ 12), (1, u "java/lang/AbstractStringBuilder"), (0, u "EMPTYVALUE"), (0, u "[B"), (0, .fieldref 10 16), (0, .nameAndType 17 14), (0, u "value"), (0, .fieldref 1 19), (0, .nameAndType 20 21), (0, u "COMPACT_STRINGS"), (0, u "Z"), (0, .fieldref 10 23), (0, .nameAndType 24 25), (0, u "coder"), (0, u "B"), (0, .methodref 27 28), (0, .class_ 29), (0, .nameAndType 30 31), (0, u "java/lang/StringUTF16"), (0, u "newBytesFor"), (0, u "(I)[B"), (0, .methodref 1 33), (0, .nameAndType 34 35), (0, u "length"), (0, u "()I"), (4, .methodref 1 41), (0, .nameAndType 24 42), (0, u "()B"), (2, u "append"), (0, u "(Ljava/lang/String;)Ljava/lang/AbstractStringBuilder;"), (1, .class_ 49), (0, u "java/lang/CharSequence"), (19, u "(Ljava/lang/String;)V"), (5, u "maybeLatin1"), (3, .fieldref 10 80), (0, .nameAndType 81 82), (0, u "count"), (0, u "I"), (0, .methodref 10 84), (0, .nameAndType 85 86), (0, u "isLatin1"), (0, u "()Z"), (1, .class_ 90), (1, u "java/lang/StringLatin1"), (9, .methodref 10 101), (0, .nameAndType 102 103), (0, u "ensureCapacityInternal"), (0, u "(I)V"), (21, .methodref 88 126), (0, .nameAndType 127 128), (0, u "inflate"), (0, u "([BI[BII)V"), (66, .methodref 10 196), (0, .nameAndType 127 8), (11, .methodref 10 209), (0, .nameAndType 210 211), (0, u "putStringAt"), (0, u "(ILjava/lang/String;)V"), (5, u "inflateIfNeededFor"), (2, .nameAndType 221 222), (0, u "getBytes"), (0, u "([BIB)V"), (174, .methodref 10 398), (0, .nameAndType 217 69), (0, .methodref 1 220), (3, u "()[B"), (40, .class_ 445), (0, u "java/lang/Appendable"), (106, u "getValue")] 56

def k11m0 : Method := ⟨"<init>", "()V", ⟨[], none⟩, 0, none⟩
def k11c1 : Code := ⟨2, 2, jdk_68_method_2_code, #[], #[]⟩
def k11m1 : Method := ⟨"<init>", "(I)V", ⟨[.int], none⟩, 0, some k11c1⟩
def k11c2 : Code := ⟨1, 1, jdk_68_method_6_code, #[], #[]⟩
def k11m2 : Method := ⟨"length", "()I", ⟨[], some .int⟩, 1, some k11c2⟩
def k11c3 : Code := ⟨4, 3, jdk_68_method_9_code, #[], #[]⟩
def k11m3 : Method := ⟨"ensureCapacityInternal", "(I)V", ⟨[.int], none⟩, 2, some k11c3⟩
def k11c4 : Code := ⟨5, 2, jdk_68_method_11_code, #[], #[]⟩
def k11m4 : Method := ⟨"inflate", "()V", ⟨[], none⟩, 2, some k11c4⟩
def k11c5 : Code := ⟨3, 3, jdk_68_method_22_code, #[], #[]⟩
def k11m5 : Method := ⟨"append", "(Ljava/lang/String;)Ljava/lang/AbstractStringBuilder;", ⟨[(.object "java/lang/String")], some (.object "java/lang/AbstractStringBuilder")⟩, 1, some k11c5⟩
def k11c6 : Code := ⟨1, 1, jdk_68_method_64_code, #[], #[]⟩
def k11m6 : Method := ⟨"getValue", "()[B", ⟨[], some (.array .byte)⟩, 16, some k11c6⟩
def k11c7 : Code := ⟨1, 1, jdk_68_method_68_code, #[], #[]⟩
def k11m7 : Method := ⟨"isLatin1", "()Z", ⟨[], some .boolean⟩, 16, some k11c7⟩
def k11c8 : Code := ⟨2, 2, jdk_68_method_71_code, #[], #[]⟩
def k11m8 : Method := ⟨"inflateIfNeededFor", "(Ljava/lang/String;)V", ⟨[(.object "java/lang/String")], none⟩, 2, some k11c8⟩
def k11c9 : Code := ⟨4, 3, jdk_68_method_73_code, #[], #[]⟩
def k11m9 : Method := ⟨"putStringAt", "(ILjava/lang/String;)V", ⟨[.int, (.object "java/lang/String")], none⟩, 2, some k11c9⟩
/-- java/lang/AbstractStringBuilder -/
def k11 : Class := { plain "java/lang/AbstractStringBuilder" (some 0) with
  accessFlags := 1056
  interfaces := #[10, 4]
  cf := some (fileOf pool11 10 #[] #[⟨0, 7, 8, #[]⟩, ⟨0, 7, 103, #[]⟩, ⟨1, 34, 35, #[]⟩, ⟨2, 102, 103, #[]⟩, ⟨2, 127, 8, #[]⟩, ⟨1, 45, 46, #[]⟩, ⟨16, 552, 403, #[]⟩, ⟨16, 85, 86, #[]⟩, ⟨2, 217, 69, #[]⟩, ⟨2, 210, 211, #[]⟩] 1056 4 #[444, 48] #[⟨0, 17, 14, #[]⟩, ⟨0, 24, 25, #[]⟩, ⟨0, 75, 21, #[]⟩, ⟨0, 81, 82, #[]⟩, ⟨26, 13, 14, #[]⟩])
  fields := #[⟨"value", (.array .byte), 0, 0, 0⟩, ⟨"coder", .byte, 0, 1, 0⟩, ⟨"maybeLatin1", .boolean, 0, 2, 0⟩, ⟨"count", .int, 0, 3, 0⟩, ⟨"EMPTYVALUE", (.array .byte), 26, 0, 0⟩]
  methods := #[k11m0, k11m1, k11m2, k11m3, k11m4, k11m5, k11m6, k11m7, k11m8, k11m9]
  instanceTypes := #[(.array .byte), .byte, .boolean, .int]
  staticTypes := #[(.array .byte)]
  resolved := Array.replicate 609 none
  statics := none }

def pool12 : Array CpInfo := pool [(1, .methodref 2 3), (0, .class_ 4), (0, .nameAndType 5 6), (0, u "java/lang/AbstractStringBuilder"), (0, u "<init>"), (0, u "(I)V"), (11, .class_ 20), (1, u "java/lang/String"), (3, .class_ 26), (1, u "java/lang/StringBuilder"), (0, u "append"), (0, u "(Ljava/lang/String;)Ljava/lang/StringBuilder;"), (0, .methodref 2 30), (0, .nameAndType 27 31), (0, u "(Ljava/lang/String;)Ljava/lang/AbstractStringBuilder;"), (105, .methodref 18 138), (0, .nameAndType 5 139), (0, u "(Ljava/lang/StringBuilder;)V"), (5, u "()V"), (10, u "()I"), (186, .methodref 2 344), (0, .nameAndType 345 156), (0, u "length"), (3, .class_ 350), (0, u "java/lang/Appendable"), (0, .class_ 352), (0, u "java/io/Serializable"), (0, .class_ 354), (0, u "java/lang/Comparable"), (0, .class_ 356), (0, u "java/lang/CharSequence"), (0, u "serialVersionUID"), (0, u "J"), (40, u "toString"), (0, u "()Ljava/lang/String;")] 21

def k12c0 : Code := ⟨2, 1, jdk_67_method_1_code, #[], #[]⟩
def k12m0 : Method := ⟨"<init>", "()V", ⟨[], none⟩, 1, some k12c0⟩
def k12c1 : Code := ⟨2, 2, jdk_67_method_7_code, #[], #[]⟩
def k12m1 : Method := ⟨"append", "(Ljava/lang/String;)Ljava/lang/StringBuilder;", ⟨[(.object "java/lang/String")], some (.object "java/lang/StringBuilder")⟩, 1, some k12c1⟩
def k12c2 : Code := ⟨3, 1, jdk_67_method_42_code, #[], #[]⟩
def k12m2 : Method := ⟨"toString", "()Ljava/lang/String;", ⟨[], some (.object "java/lang/String")⟩, 1, some k12c2⟩
def k12c3 : Code := ⟨1, 1, jdk_67_method_93_code, #[], #[]⟩
def k12m3 : Method := ⟨"length", "()I", ⟨[], some .int⟩, 4161, some k12c3⟩
/-- java/lang/StringBuilder -/
def k12 : Class := { plain "java/lang/StringBuilder" (some 11) with
  accessFlags := 49
  interfaces := #[10, 2, 3, 4]
  cf := some (fileOf pool12 24 #[] #[⟨1, 5, 145, #[]⟩, ⟨1, 27, 28, #[]⟩, ⟨1, 399, 400, #[]⟩, ⟨4161, 345, 156, #[]⟩] 49 2 #[349, 351, 353, 355] #[⟨24, 357, 358, #[]⟩])
  fields := #[⟨"serialVersionUID", .long, 24, 0, 0⟩]
  methods := #[k12m0, k12m1, k12m2, k12m3]
  instanceTypes := #[(.array .byte), .byte, .boolean, .int]
  staticTypes := #[.long]
  resolved := Array.replicate 422 none
  statics := none }

def pool13 : Array CpInfo := pool [(2, .class_ 4), (1, u "java/lang/Object"), (0, u "<init>"), (0, u "()V"), (1, .class_ 10), (1, u "java/lang/System"), (0, u "allowSecurityManager"), (0, u "I"), (16, u "cons"), (0, u "Ljava/io/Console;"), (77, .class_ 110), (1, u "java/lang/System$CallersHolder"), (43, u "initialErrStream"), (0, u "Ljava/io/PrintStream;"), (19, u "security"), (0, u "Ljava/lang/SecurityManager;"), (31, .class_ 209), (0, u "java/lang/System$1"), (7, u "props"), (0, u "Ljava/util/Properties;"), (2, u "lineSeparator"), (0, u "Ljava/lang/String;"), (96, .class_ 321), (1, u "java/lang/System$LoggerFinder"), (5, .class_ 328), (0, u "java/lang/System$Logger"), (67, u "err"), (2, u "out"), (91, u "notSupportedJnuEncoding"), (15, u "in"), (17, u "initialIn"), (0, u "Ljava/io/InputStream;"), (35, u "bootLayer"), (0, u "Ljava/lang/ModuleLayer;"), (99, .class_ 664), (0, u "java/lang/System$2"), (9, u "NEVER"), (2, u "MAYBE"), (49, u "arraycopy"), (0, u "(Ljava/lang/Object;ILjava/lang/Object;II)V"), (72, .class_ 802), (0, u "java/lang/System$Logger$Level")] 31

def k13m0 : Method := ⟨"<init>", "()V", ⟨[], none⟩, 2, none⟩
def k13m1 : Method := ⟨"arraycopy", "(Ljava/lang/Object;ILjava/lang/Object;II)V", ⟨[(.object "java/lang/Object"), .int, (.object "java/lang/Object"), .int, .int], none⟩, 265, none⟩
/-- java/lang/System -/
def k13 : Class := { plain "java/lang/System" (some 0) with
  accessFlags := 49
  interfaces := #[]
  cf := some (fileOf pool13 8 #[.nestMembers #[319, 327, 801, 108, 663, 208]] #[⟨2, 5, 6, #[]⟩, ⟨265, 727, 728, #[]⟩] 49 2 #[] #[⟨25, 507, 526, #[]⟩, ⟨25, 399, 155, #[]⟩, ⟨25, 396, 155, #[]⟩, ⟨10, 525, 526, #[]⟩, ⟨26, 674, 12, #[]⟩, ⟨26, 677, 12, #[]⟩, ⟨10, 11, 12, #[]⟩, ⟨74, 175, 176, #[]⟩, ⟨10, 491, 222, #[]⟩, ⟨74, 29, 30, #[]⟩, ⟨74, 154, 155, #[]⟩, ⟨10, 217, 218, #[]⟩, ⟨10, 221, 222, #[]⟩, ⟨8, 562, 563, #[]⟩])
  fields := #[⟨"in", (.object "java/io/InputStream"), 25, 0, 0⟩, ⟨"out", (.object "java/io/PrintStream"), 25, 1, 0⟩, ⟨"err", (.object "java/io/PrintStream"), 25, 2, 0⟩, ⟨"initialIn", (.object "java/io/InputStream"), 10, 3, 0⟩, ⟨"NEVER", .int, 26, 4, 0⟩, ⟨"MAYBE", .int, 26, 5, 0⟩, ⟨"allowSecurityManager", .int, 10, 6, 0⟩, ⟨"security", (.object "java/lang/SecurityManager"), 74, 7, 0⟩, ⟨"notSupportedJnuEncoding", (.object "java/lang/String"), 10, 8, 0⟩, ⟨"cons", (.object "java/io/Console"), 74, 9, 0⟩, ⟨"initialErrStream", (.object "java/io/PrintStream"), 74, 10, 0⟩, ⟨"props", (.object "java/util/Properties"), 10, 11, 0⟩, ⟨"lineSeparator", (.object "java/lang/String"), 10, 12, 0⟩, ⟨"bootLayer", (.object "java/lang/ModuleLayer"), 8, 13, 0⟩]
  methods := #[k13m0, k13m1]
  instanceTypes := #[]
  staticTypes := #[(.object "java/io/InputStream"), (.object "java/io/PrintStream"), (.object "java/io/PrintStream"), (.object "java/io/InputStream"), .int, .int, .int, (.object "java/lang/SecurityManager"), (.object "java/lang/String"), (.object "java/io/Console"), (.object "java/io/PrintStream"), (.object "java/util/Properties"), (.object "java/lang/String"), (.object "java/lang/ModuleLayer")]
  resolved := Array.replicate 834 none
  statics := none }

def pool14 : Array CpInfo := pool [(2, .class_ 4), (1, u "java/lang/Object"), (0, u "<init>"), (0, u "()V"), (7, .class_ 16), (1, u "java/util/Arrays"), (57, .class_ 76), (1, u "java/util/Arrays$NaturalOrder"), (36, .class_ 115), (1, u "java/util/Arrays$LegacyMergeSort"), (1, u "Z"), (21, u "copyOfRange"), (10, .methodref 151 152), (0, .class_ 153), (0, .nameAndType 154 155), (0, u "java/lang/System"), (0, u "arraycopy"), (0, u "(Ljava/lang/Object;ILjava/lang/Object;II)V"), (148, .methodref 305 306), (0, .class_ 307), (0, .nameAndType 308 309), (0, u "java/lang/Math"), (0, u "min"), (0, u "(II)I"), (29, .methodref 14 340), (0, .nameAndType 341 342), (0, u "copyOfRangeByte"), (0, u "([BII)[B"), (0, .methodref 14 344), (0, .nameAndType 345 346), (0, u "checkLength"), (0, u "(II)V"), (28, .class_ 376), (0, u "java/util/Arrays$ArrayList"), (68, u "$assertionsDisabled"), (269, u "MIN_ARRAY_SORT_GRAN"), (0, u "I"), (2, u "INSERTIONSORT_THRESHOLD"), (255, .class_ 976), (0, u "java/util/Arrays$ArrayItr")] 52

def k14m0 : Method := ⟨"<init>", "()V", ⟨[], none⟩, 2, none⟩
def k14c1 : Code := ⟨4, 2, jdk_65_method_131_code, #[], #[]⟩
def k14m1 : Method := ⟨"checkLength", "(II)V", ⟨[.int, .int], none⟩, 10, some k14c1⟩
def k14c2 : Code := ⟨3, 3, jdk_65_method_132_code, #[], #[]⟩
def k14m2 : Method := ⟨"copyOfRange", "([BII)[B", ⟨[(.array .byte), .int, .int], some (.array .byte)⟩, 9, some k14c2⟩
def k14c3 : Code := ⟨6, 5, jdk_65_method_133_code, #[], #[]⟩
def k14m3 : Method := ⟨"copyOfRangeByte", "([BII)[B", ⟨[(.array .byte), .int, .int], some (.array .byte)⟩, 10, some k14c3⟩
/-- java/util/Arrays -/
def k14 : Class := { plain "java/util/Arrays" (some 0) with
  accessFlags := 49
  interfaces := #[]
  cf := some (fileOf pool14 14 #[.nestMembers #[975, 375, 113, 74]] #[⟨2, 5, 6, #[]⟩, ⟨10, 345, 346, #[]⟩, ⟨9, 139, 342, #[]⟩, ⟨10, 341, 342, #[]⟩] 49 2 #[] #[⟨26, 715, 716, #[]⟩, ⟨26, 719, 716, #[]⟩, ⟨4120, 445, 117, #[]⟩])
  fields := #[⟨"MIN_ARRAY_SORT_GRAN", .int, 26, 0, 0⟩, ⟨"INSERTIONSORT_THRESHOLD", .int, 26, 1, 0⟩, ⟨"$assertionsDisabled", .boolean, 4120, 2, 0⟩]
  methods := #[k14m0, k14m1, k14m2, k14m3]
  instanceTypes := #[]
  staticTypes := #[.int, .int, .boolean]
  resolved := Array.replicate 1029 none
  statics := none }

def pool15 : Array CpInfo := pool [(1, .class_ 2), (0, u "java/lang/Math"), (1, .class_ 6), (1, u "java/lang/Object"), (0, u "<init>"), (0, u "()V"), (89, .class_ 100), (1, u "java/lang/Math$RandomNumberGeneratorHolder"), (71, u "negativeZeroFloatBits"), (0, u "J"), (2, u "negativeZeroDoubleBits"), (24, u "min"), (43, u "$assertionsDisabled"), (0, u "Z"), (88, u "(II)I"), (2, u "twoToTheDoubleScaleDown"), (0, u "D"), (4, u "twoToTheDoubleScaleUp"), (9, u "E"), (3, u "PI"), (2, u "TAU"), (2, u "DEGREES_TO_RADIANS"), (0, u "RADIANS_TO_DEGREES")] 94

def k15m0 : Method := ⟨"<init>", "()V", ⟨[], none⟩, 2, none⟩
def k15c1 : Code := ⟨2, 2, jdk_29_method_69_code, #[], #[]⟩
def k15m1 : Method := ⟨"min", "(II)I", ⟨[.int, .int], some .int⟩, 9, some k15c1⟩
/-- java/lang/Math -/
def k15 : Class := { plain "java/lang/Math" (some 0) with
  accessFlags := 49
  interfaces := #[]
  cf := some (fileOf pool15 1 #[.nestMembers #[98]] #[⟨2, 7, 8, #[]⟩, ⟨9, 201, 335, #[]⟩] 49 4 #[] #[⟨25, 354, 339, #[]⟩, ⟨25, 358, 339, #[]⟩, ⟨25, 361, 339, #[]⟩, ⟨26, 364, 339, #[]⟩, ⟨26, 365, 339, #[]⟩, ⟨26, 172, 173, #[]⟩, ⟨26, 176, 173, #[]⟩, ⟨8, 344, 339, #[]⟩, ⟨8, 338, 339, #[]⟩, ⟨4120, 245, 246, #[]⟩])
  fields := #[⟨"E", .double, 25, 0, 0⟩, ⟨"PI", .double, 25, 1, 0⟩, ⟨"TAU", .double, 25, 2, 0⟩, ⟨"DEGREES_TO_RADIANS", .double, 26, 3, 0⟩, ⟨"RADIANS_TO_DEGREES", .double, 26, 4, 0⟩, ⟨"negativeZeroFloatBits", .long, 26, 5, 0⟩, ⟨"negativeZeroDoubleBits", .long, 26, 6, 0⟩, ⟨"twoToTheDoubleScaleUp", .double, 8, 7, 0⟩, ⟨"twoToTheDoubleScaleDown", .double, 8, 8, 0⟩, ⟨"$assertionsDisabled", .boolean, 4120, 9, 0⟩]
  methods := #[k15m0, k15m1]
  instanceTypes := #[]
  staticTypes := #[.double, .double, .double, .double, .double, .long, .long, .double, .double, .boolean]
  resolved := Array.replicate 460 none
  statics := none }

def pool16 : Array CpInfo := pool [(2, .class_ 4), (1, u "java/lang/Enum"), (0, u "name"), (0, u "Ljava/lang/String;"), (2, u "ordinal"), (0, u "I"), (1, .class_ 14), (1, u "java/lang/Object"), (4, u "hash"), (86, .class_ 108), (1, u "java/lang/Enum$EnumDesc"), (2, .class_ 112), (0, u "java/lang/constant/Constable"), (0, .class_ 114), (0, u "java/lang/Comparable"), (0, .class_ 116), (0, u "java/io/Serializable")] 87

/-- java/lang/Enum -/
def k16 : Class := { plain "java/lang/Enum" (some 0) with
  accessFlags := 1057
  interfaces := #[5, 3, 2]
  cf := some (fileOf pool16 2 #[.nestMembers #[106]] #[] 1057 12 #[111, 113, 115] #[⟨18, 5, 6, #[]⟩, ⟨18, 9, 10, #[]⟩, ⟨2, 19, 10, #[]⟩])
  fields := #[⟨"name", (.object "java/lang/String"), 18, 0, 0⟩, ⟨"ordinal", .int, 18, 1, 0⟩, ⟨"hash", .int, 2, 2, 0⟩]
  methods := #[]
  instanceTypes := #[(.object "java/lang/String"), .int, .int]
  staticTypes := #[]
  resolved := Array.replicate 204 none
  statics := none }

def pool17 : Array CpInfo := pool [(1, .class_ 2), (0, u "com/example/web_whiteboard/webwhiteboard/context/ServletPattern$Kind"), (2, u "EXACT"), (0, u "Lcom/example/web_whiteboard/webwhiteboard/context/ServletPattern$Kind;"), (2, u "CONTEXT_ROOT"), (2, u "PATH_PREFIX"), (2, u "EXTENSION"), (2, u "DEFAULT"), (2, u "$VALUES"), (0, u "[Lcom/example/web_whiteboard/webwhiteboard/context/ServletPattern$Kind;"), (6, .class_ 31), (1, u "java/lang/Enum"), (28, .class_ 61), (0, u "com/example/web_whiteboard/webwhiteboard/context/ServletPattern")] 2

/-- com/example/web_whiteboard/webwhiteboard/context/ServletPattern$Kind -/
def k17 : Class := { plain "com/example/web_whiteboard/webwhiteboard/context/ServletPattern$Kind" (some 16) with
  accessFlags := 16433
  interfaces := #[]
  cf := some (fileOf pool17 1 #[.nestHost 60] #[] 16433 29 #[] #[⟨16409, 5, 6, #[]⟩, ⟨16409, 9, 6, #[]⟩, ⟨16409, 12, 6, #[]⟩, ⟨16409, 15, 6, #[]⟩, ⟨16409, 18, 6, #[]⟩, ⟨4122, 21, 22, #[]⟩])
  fields := #[⟨"EXACT", (.object "com/example/web_whiteboard/webwhiteboard/context/ServletPattern$Kind"), 16409, 0, 0⟩, ⟨"CONTEXT_ROOT", (.object "com/example/web_whiteboard/webwhiteboard/context/ServletPattern$Kind"), 16409, 1, 0⟩, ⟨"PATH_PREFIX", (.object "com/example/web_whiteboard/webwhiteboard/context/ServletPattern$Kind"), 16409, 2, 0⟩, ⟨"EXTENSION", (.object "com/example/web_whiteboard/webwhiteboard/context/ServletPattern$Kind"), 16409, 3, 0⟩, ⟨"DEFAULT", (.object "com/example/web_whiteboard/webwhiteboard/context/ServletPattern$Kind"), 16409, 4, 0⟩, ⟨"$VALUES", (.array (.object "com/example/web_whiteboard/webwhiteboard/context/ServletPattern$Kind")), 4122, 5, 0⟩]
  methods := #[]
  instanceTypes := #[(.object "java/lang/String"), .int, .int]
  staticTypes := #[(.object "com/example/web_whiteboard/webwhiteboard/context/ServletPattern$Kind"), (.object "com/example/web_whiteboard/webwhiteboard/context/ServletPattern$Kind"), (.object "com/example/web_whiteboard/webwhiteboard/context/ServletPattern$Kind"), (.object "com/example/web_whiteboard/webwhiteboard/context/ServletPattern$Kind"), (.object "com/example/web_whiteboard/webwhiteboard/context/ServletPattern$Kind"), (.array (.object "com/example/web_whiteboard/webwhiteboard/context/ServletPattern$Kind"))]
  resolved := Array.replicate 64 none
  statics := some 2 }

def pool18 : Array CpInfo := pool [(4, .class_ 6), (1, u "java/lang/Object"), (0, u "<init>"), (0, u "()V"), (5, .class_ 16), (1, u "java/lang/StringLatin1"), (0, u "inflate"), (2, .class_ 22), (1, u "java/lang/StringUTF16"), (3, .nameAndType 17 27), (0, u "([BI[BII)V"), (93, u "$assertionsDisabled"), (0, u "Z"), (98, .class_ 223), (1, u "java/lang/StringLatin1$LinesSpliterator"), (16, .methodref 20 26), (40, u "equals"), (0, u "([B[B)Z"), (107, .class_ 391), (0, u "java/lang/StringLatin1$CharsSpliterator")] 3

def k18m0 : Method := ⟨"<init>", "()V", ⟨[], none⟩, 0, none⟩
def k18c1 : Code := ⟨3, 3, jdk_43_method_13_code, #[], #[]⟩
def k18m1 : Method := ⟨"equals", "([B[B)Z", ⟨[(.array .byte), (.array .byte)], some .boolean⟩, 9, some k18c1⟩
def k18c2 : Code := ⟨5, 5, jdk_43_method_50_code, #[], #[]⟩
def k18m2 : Method := ⟨"inflate", "([BI[BII)V", ⟨[(.array .byte), .int, (.array .byte), .int, .int], none⟩, 9, some k18c2⟩
/-- java/lang/StringLatin1 -/
def k18 : Class := { plain "java/lang/StringLatin1" (some 0) with
  accessFlags := 48
  interfaces := #[]
  cf := some (fileOf pool18 14 #[.nestMembers #[390, 221]] #[⟨0, 7, 8, #[]⟩, ⟨9, 281, 282, #[]⟩, ⟨9, 17, 27, #[]⟩] 48 4 #[] #[⟨4120, 121, 122, #[]⟩])
  fields := #[⟨"$assertionsDisabled", .boolean, 4120, 0, 0⟩]
  methods := #[k18m0, k18m1, k18m2]
  instanceTypes := #[]
  staticTypes := #[.boolean]
  resolved := Array.replicate 395 none
  statics := none }

def pool19 : Array CpInfo := pool [(2, .class_ 4), (1, u "java/lang/Object"), (0, u "<init>"), (0, u "()V"), (17, .class_ 26), (1, u "jdk/internal/util/Preconditions"), (22, u "checkFromIndexSize"), (5, .class_ 56), (0, u "jdk/internal/util/Preconditions$4"), (57, .class_ 115), (0, u "jdk/internal/util/Preconditions$1"), (7, u "SIOOBE_FORMATTER"), (0, u "Ljava/util/function/BiFunction;"), (0, .class_ 126), (0, u "jdk/internal/util/Preconditions$2"), (3, u "AIOOBE_FORMATTER"), (0, .class_ 132), (0, u "jdk/internal/util/Preconditions$3"), (3, u "IOOBE_FORMATTER"), (46, u "(IIILjava/util/function/BiFunction;)I")] 10

def k19m0 : Method := ⟨"<init>", "()V", ⟨[], none⟩, 1, none⟩
def k19c1 : Code := ⟨4, 4, jdk_41_method_13_code, #[], #[]⟩
def k19m1 : Method := ⟨"checkFromIndexSize", "(IIILjava/util/function/BiFunction;)I", ⟨[.int, .int, .int, (.object "java/util/function/BiFunction")], some .int⟩, 9, some k19c1⟩
/-- jdk/internal/util/Preconditions -/
def k19 : Class := { plain "jdk/internal/util/Preconditions" (some 0) with
  accessFlags := 33
  interfaces := #[]
  cf := some (fileOf pool19 24 #[.nestMembers #[55, 131, 125, 114]] #[⟨1, 5, 6, #[]⟩, ⟨9, 49, 183, #[]⟩] 33 2 #[] #[⟨25, 123, 124, #[]⟩, ⟨25, 130, 124, #[]⟩, ⟨25, 136, 124, #[]⟩])
  fields := #[⟨"SIOOBE_FORMATTER", (.object "java/util/function/BiFunction"), 25, 0, 0⟩, ⟨"AIOOBE_FORMATTER", (.object "java/util/function/BiFunction"), 25, 1, 0⟩, ⟨"IOOBE_FORMATTER", (.object "java/util/function/BiFunction"), 25, 2, 0⟩]
  methods := #[k19m0, k19m1]
  instanceTypes := #[]
  staticTypes := #[(.object "java/util/function/BiFunction"), (.object "java/util/function/BiFunction"), (.object "java/util/function/BiFunction")]
  resolved := Array.replicate 194 none
  statics := some 3 }

def pool20 : Array CpInfo := pool [(9, u "<init>"), (6, .class_ 18), (1, u "java/lang/Object"), (0, u "()V"), (1, .class_ 23), (1, u "jdk/internal/util/ArraysSupport"), (0, u "LOG2_ARRAY_LONG_INDEX_SCALE"), (0, u "I"), (2, u "U"), (0, u "Ljdk/internal/misc/Unsafe;"), (8, u "BIG_ENDIAN"), (0, u "Z"), (8, u "LOG2_BYTE_BIT_SIZE"), (4, u "LOG2_ARRAY_INT_INDEX_SCALE"), (54, u "JLA"), (0, u "Ljdk/internal/access/JavaLangAccess;"), (11, u "LOG2_ARRAY_BOOLEAN_INDEX_SCALE"), (9, u "LOG2_ARRAY_BYTE_INDEX_SCALE"), (5, u "LOG2_ARRAY_CHAR_INDEX_SCALE"), (5, u "LOG2_ARRAY_SHORT_INDEX_SCALE"), (18, u "LOG2_ARRAY_FLOAT_INDEX_SCALE"), (24, u "LOG2_ARRAY_DOUBLE_INDEX_SCALE"), (89, u "T_BOOLEAN"), (2, u "T_CHAR"), (1, u "T_FLOAT"), (1, u "T_DOUBLE"), (1, u "T_BYTE"), (1, u "T_SHORT"), (1, u "T_INT"), (1, u "T_LONG"), (1, u "SOFT_MAX_ARRAY_LENGTH")] 83

def k20m0 : Method := ⟨"<init>", "()V", ⟨[], none⟩, 2, none⟩
/-- jdk/internal/util/ArraysSupport -/
def k20 : Class := { plain "jdk/internal/util/ArraysSupport" (some 0) with
  accessFlags := 33
  interfaces := #[]
  cf := some (fileOf pool20 21 #[] #[⟨2, 9, 19, #[]⟩] 33 16 #[] #[⟨24, 28, 29, #[]⟩, ⟨26, 38, 39, #[]⟩, ⟨25, 121, 25, #[]⟩, ⟨25, 131, 25, #[]⟩, ⟨25, 137, 25, #[]⟩, ⟨25, 143, 25, #[]⟩, ⟨25, 53, 25, #[]⟩, ⟨25, 24, 25, #[]⟩, ⟨25, 162, 25, #[]⟩, ⟨25, 187, 25, #[]⟩, ⟨26, 48, 25, #[]⟩, ⟨25, 277, 25, #[]⟩, ⟨25, 280, 25, #[]⟩, ⟨25, 282, 25, #[]⟩, ⟨25, 284, 25, #[]⟩, ⟨25, 286, 25, #[]⟩, ⟨25, 288, 25, #[]⟩, ⟨25, 290, 25, #[]⟩, ⟨25, 292, 25, #[]⟩, ⟨26, 108, 109, #[]⟩, ⟨25, 294, 25, #[]⟩])
  fields := #[⟨"U", (.object "jdk/internal/misc/Unsafe"), 24, 0, 0⟩, ⟨"BIG_ENDIAN", .boolean, 26, 1, 0⟩, ⟨"LOG2_ARRAY_BOOLEAN_INDEX_SCALE", .int, 25, 2, 0⟩, ⟨"LOG2_ARRAY_BYTE_INDEX_SCALE", .int, 25, 3, 0⟩, ⟨"LOG2_ARRAY_CHAR_INDEX_SCALE", .int, 25, 4, 0⟩, ⟨"LOG2_ARRAY_SHORT_INDEX_SCALE", .int, 25, 5, 0⟩, ⟨"LOG2_ARRAY_INT_INDEX_SCALE", .int, 25, 6, 0⟩, ⟨"LOG2_ARRAY_LONG_INDEX_SCALE", .int, 25, 7, 0⟩, ⟨"LOG2_ARRAY_FLOAT_INDEX_SCALE", .int, 25, 8, 0⟩, ⟨"LOG2_ARRAY_DOUBLE_INDEX_SCALE", .int, 25, 9, 0⟩, ⟨"LOG2_BYTE_BIT_SIZE", .int, 26, 10, 0⟩, ⟨"T_BOOLEAN", .int, 25, 11, 0⟩, ⟨"T_CHAR", .int, 25, 12, 0⟩, ⟨"T_FLOAT", .int, 25, 13, 0⟩, ⟨"T_DOUBLE", .int, 25, 14, 0⟩, ⟨"T_BYTE", .int, 25, 15, 0⟩, ⟨"T_SHORT", .int, 25, 16, 0⟩, ⟨"T_INT", .int, 25, 17, 0⟩, ⟨"T_LONG", .int, 25, 18, 0⟩, ⟨"JLA", (.object "jdk/internal/access/JavaLangAccess"), 26, 19, 0⟩, ⟨"SOFT_MAX_ARRAY_LENGTH", .int, 25, 20, 0⟩]
  methods := #[k20m0]
  instanceTypes := #[]
  staticTypes := #[(.object "jdk/internal/misc/Unsafe"), .boolean, .int, .int, .int, .int, .int, .int, .int, .int, .int, .int, .int, .int, .int, .int, .int, .int, .int, (.object "jdk/internal/access/JavaLangAccess"), .int]
  resolved := Array.replicate 378 none
  statics := none }

def pool21 : Array CpInfo := pool [(1, u "java/lang/Cloneable"), (0, .class_ 1), (0, u "java/lang/Object"), (0, .class_ 3)] 3

/-- java/lang/Cloneable -/
def k21 : Class := { plain "java/lang/Cloneable" (some 0) with
  accessFlags := 1537
  interfaces := #[]
  cf := some (fileOf pool21 2 #[] #[] 1537 4 #[] #[])
  fields := #[]
  methods := #[]
  instanceTypes := #[]
  staticTypes := #[]
  resolved := Array.replicate 8 none
  statics := none }

/-- the primitive byte -/
def k22 : Class := { plain "byte" none with kind := .primitive 'B', accessFlags := 0x411 }
/-- [B -/
def k23 : Class := { plain "[B" (some 0) with kind := .array 22 .byte, interfaces := #[21, 2], accessFlags := 1041 }

/-- the primitive char -/
def k24 : Class := { plain "char" none with kind := .primitive 'C', accessFlags := 0x411 }
/-- [C -/
def k25 : Class := { plain "[C" (some 0) with kind := .array 24 .char, interfaces := #[21, 2], accessFlags := 1041 }

def heap : Heap := #[{ cls := 7, slots := #[.long 0, .int 1, .null, .int 0, .null, .int 0, .int 0], vm := .statics 7 },
  { cls := 8, slots := #[.int 0, .int 8, .int 0, .int 1], vm := .statics 8 },
  { cls := 17, slots := #[.null, .null, .ref 4, .null, .null, .null], vm := .statics 17 },
  { cls := 19, slots := #[.null, .null, .null], vm := .statics 19 },
  { cls := 17, slots := #[.null, .int 2, .int 0], vm := .none }]
def classes : Array Class := #[k0, k1, k2, k3, k4, k5, k6, k7, k8, k9, k10, k11, k12, k13, k14, k15, k16, k17, k18, k19, k20, k21, k22, k23, k24, k25]
def interned : List (Array UInt16 × Addr) := []
def slotsUsed : Nat := 23
def theMethod : MethodId := ⟨1, 1⟩
def args0 : Array Value := #[.int 1, .int 2, .int 3]
def aboutOver (below : List Frame) : State where
  vm := { classes := classes, interned := interned.toArray }
  heap := heap
  slotsUsed := slotsUsed
  threads := #[{ frames := .invoking theMethod args0 :: below }]
def below0 : List Frame := [.native { method := ⟨0, 0⟩, args := #[] }]
def about1 : State := aboutOver below0
def p0 : Program := .bare "" "" ""
def e0 : Env := launch0.env 0 0 0
theorem w_frames : about1.frames = Frame.invoking theMethod args0 :: below0 := rfl
set_option maxRecDepth 65536 in
theorem w_args : argsFit about1.vm theMethod args0 = true := by decide +kernel
set_option maxRecDepth 65536 in
theorem w_heap : heapFits about1 = true := by decide +kernel
set_option maxRecDepth 65536 in
theorem w_runnable : about1.curStatus? = some .runnable := by decide +kernel
set_option maxRecDepth 65536 in
theorem w_alone : about1.alone = true := by decide +kernel
set_option maxRecDepth 65536 in
theorem w_named : about1.methodNamed? x = some theMethod := by decide +kernel
set_option maxRecDepth 65536 in
theorem w_hears : about1.hears theMethod below0 = true := by decide +kernel
set_option maxRecDepth 65536 in
theorem w_ripe : about1.ripe theMethod args0 below0 = true := by decide +kernel
theorem w_running : about1.status = .running := rfl
set_option maxRecDepth 65536 in
theorem w_room : about1.hasRoom e0.platform room_1 = true :=
  launch0.hasRoom_least _ room_1 (by decide +kernel) (by decide +kernel) (by decide +kernel) (by decide +kernel) (by decide +kernel) (by decide +kernel)
theorem allAtoms_all (ts : List Jvm.Cond) (a : Array Jvm.Value) (st : Jvm.State) : (allAtoms ts).before a st = ts.all (fun c => c.before a st) := by
  induction ts with
  | nil => rfl
  | cons c t ih =>
    show (Jvm.Cond.and c (allAtoms t)).before a st = _
    rw [Jvm.Cond.before_and, ih, List.all_cons]
def words1 : List Jvm.Cond := Jvm.Cond.code x code maxLocals ret :: tables_1
/-- a 'code' word, met by the world's own term for the bytes: nothing is compared byte by byte -/
theorem code_word {y : MethodName} {bytes : ByteArray} {mx : Nat} {rt : Option FieldType} {a : Array Value} {s : State} {m : MethodId} {meth : Method} {c : Code} (h1 : s.methodNamed? y = some m) (h2 : s.vm.method? m = some meth) (h3 : meth.code = some c) (h4 : c.code = bytes)
    (h5 : (c.maxLocals == mx && c.exceptionTable.isEmpty && decide (c.maxStack ≤ mostOperands) && decide (meth.sig.returnType = rt) && !meth.locks && decide (parseMethodDescriptor y.desc = some meth.sig)) = true) : (Jvm.Cond.code y bytes mx rt).before a s = true := by
  simp only [Bool.and_eq_true, beq_iff_eq, Bool.not_eq_true', decide_eq_true_eq] at h5
  obtain ⟨⟨⟨⟨⟨g1, g2⟩, g3⟩, g4⟩, g5⟩, g6⟩ := h5
  simp [Cond.before, Cond.holds, Cond.value, h1, h2, h3, h4, g1, g2, g3, g4, g5, g6]
def isCode : Jvm.Cond → Bool
  | .code _ _ _ _ => true
  | _ => false
theorem all_split {L : List Jvm.Cond} {P : Jvm.Cond → Bool} (h1 : L.all (fun c => isCode c || P c) = true) (h2 : ∀ c ∈ L.filter isCode, P c = true) : L.all P = true := by
  refine List.all_eq_true.mpr fun c hc => ?_
  have h := List.all_eq_true.mp h1 c hc
  rcases Bool.eq_false_or_eq_true (isCode c) with hi | hi
  · exact h2 c (List.mem_filter.mpr ⟨hc, hi⟩)
  · simpa [hi] using h
set_option maxRecDepth 65536 in
theorem w_c0 : (Jvm.Cond.code x code maxLocals ret).before args0 about1 = true := code_word (m := ⟨1, 1⟩) (meth := k1m1) (c := k1c1) (by decide +kernel) rfl rfl rfl (by decide +kernel)
set_option maxRecDepth 65536 in
theorem w_c1 : (Jvm.Cond.code ({ cls := "java/lang/String", name := "<init>", desc := "([C)V" } : Jvm.MethodName) jdk_42_method_3_code (2 : Nat) (Option.none : Option Jvm.ClassFile.FieldType)).before args0 about1 = true := code_word (m := ⟨7, 1⟩) (meth := k7m1) (c := k7c1) (by decide +kernel) rfl rfl rfl (by decide +kernel)
set_option maxRecDepth 65536 in
theorem w_c2 : (Jvm.Cond.code ({ cls := "java/lang/String", name := "<init>", desc := "([CIILjava/lang/Void;)V" } : Jvm.MethodName) jdk_42_method_149_code (6 : Nat) (Option.none : Option Jvm.ClassFile.FieldType)).before args0 about1 = true := code_word (m := ⟨7, 6⟩) (meth := k7m6) (c := k7c6) (by decide +kernel) rfl rfl rfl (by decide +kernel)
set_option maxRecDepth 65536 in
theorem w_c3 : (Jvm.Cond.code ({ cls := "java/lang/Object", name := "<init>", desc := "()V" } : Jvm.MethodName) object_method_1_code (1 : Nat) (Option.none : Option Jvm.ClassFile.FieldType)).before args0 about1 = true := code_word (m := ⟨0, 0⟩) (meth := k0m0) (c := k0c0) (by decide +kernel) rfl rfl rfl (by decide +kernel)
set_option maxRecDepth 65536 in
theorem w_c4 : (Jvm.Cond.code ({ cls := "java/lang/StringUTF16", name := "compress", desc := "([CII)[B" } : Jvm.MethodName) jdk_52_method_16_code (6 : Nat) (Option.some (Jvm.ClassFile.FieldType.array Jvm.ClassFile.FieldType.byte))).before args0 about1 = true := code_word (m := ⟨8, 8⟩) (meth := k8m8) (c := k8c8) (by decide +kernel) rfl rfl rfl (by decide +kernel)
set_option maxRecDepth 65536 in
theorem w_c5 : (Jvm.Cond.code ({ cls := "java/lang/StringUTF16", name := "compress", desc := "([CI[BII)I" } : Jvm.MethodName) jdk_52_method_21_code (7 : Nat) (Option.some Jvm.ClassFile.FieldType.int)).before args0 about1 = true := code_word (m := ⟨8, 9⟩) (meth := k8m9) (c := k8c9) (by decide +kernel) rfl rfl rfl (by decide +kernel)
set_option maxRecDepth 65536 in
theorem w_c6 : (Jvm.Cond.code ({ cls := "java/lang/StringUTF16", name := "coderFromArrayLen", desc := "([BI)B" } : Jvm.MethodName) jdk_52_method_15_code (2 : Nat) (Option.some Jvm.ClassFile.FieldType.byte)).before args0 about1 = true := code_word (m := ⟨8, 7⟩) (meth := k8m7) (c := k8c7) (by decide +kernel) rfl rfl rfl (by decide +kernel)
set_option maxRecDepth 65536 in
theorem w_c7 : (Jvm.Cond.code ({ cls := "com/example/web_whiteboard/webwhiteboard/context/ServletPattern", name := "below", desc := "(Ljava/lang/String;)Lcom/example/web_whiteboard/webwhiteboard/context/ServletPattern;" } : Jvm.MethodName) prog_4_method_3_code (1 : Nat) (Option.some (Jvm.ClassFile.FieldType.object "com/example/web_whiteboard/webwhiteboard/context/ServletPattern"))).before args0 about1 = true := code_word (m := ⟨9, 1⟩) (meth := k9m1) (c := k9c1) (by decide +kernel) rfl rfl rfl (by decide +kernel)
set_option maxRecDepth 65536 in
theorem w_c8 : (Jvm.Cond.code ({ cls := "java/lang/StringBuilder", name := "<init>", desc := "()V" } : Jvm.MethodName) jdk_67_method_1_code (1 : Nat) (Option.none : Option Jvm.ClassFile.FieldType)).before args0 about1 = true := code_word (m := ⟨12, 0⟩) (meth := k12m0) (c := k12c0) (by decide +kernel) rfl rfl rfl (by decide +kernel)
set_option maxRecDepth 65536 in
theorem w_c9 : (Jvm.Cond.code ({ cls := "java/lang/AbstractStringBuilder", name := "<init>", desc := "(I)V" } : Jvm.MethodName) jdk_68_method_2_code (2 : Nat) (Option.none : Option Jvm.ClassFile.FieldType)).before args0 about1 = true := code_word (m := ⟨11, 1⟩) (meth := k11m1) (c := k11c1) (by decide +kernel) rfl rfl rfl (by decide +kernel)
set_option maxRecDepth 65536 in
theorem w_c10 : (Jvm.Cond.code ({ cls := "java/lang/StringBuilder", name := "append", desc := "(Ljava/lang/String;)Ljava/lang/StringBuilder;" } : Jvm.MethodName) jdk_67_method_7_code (2 : Nat) (Option.some (Jvm.ClassFile.FieldType.object "java/lang/StringBuilder"))).before args0 about1 = true := code_word (m := ⟨12, 1⟩) (meth := k12m1) (c := k12c1) (by decide +kernel) rfl rfl rfl (by decide +kernel)
set_option maxRecDepth 65536 in
theorem w_c11 : (Jvm.Cond.code ({ cls := "java/lang/AbstractStringBuilder", name := "append", desc := "(Ljava/lang/String;)Ljava/lang/AbstractStringBuilder;" } : Jvm.MethodName) jdk_68_method_22_code (3 : Nat) (Option.some (Jvm.ClassFile.FieldType.object "java/lang/AbstractStringBuilder"))).before args0 about1 = true := code_word (m := ⟨11, 5⟩) (meth := k11m5) (c := k11c5) (by decide +kernel) rfl rfl rfl (by decide +kernel)
set_option maxRecDepth 65536 in
theorem w_c12 : (Jvm.Cond.code ({ cls := "java/lang/String", name := "length", desc := "()I" } : Jvm.MethodName) jdk_42_method_54_code (1 : Nat) (Option.some Jvm.ClassFile.FieldType.int)).before args0 about1 = true := code_word (m := ⟨7, 3⟩) (meth := k7m3) (c := k7c3) (by decide +kernel) rfl rfl rfl (by decide +kernel)
set_option maxRecDepth 65536 in
theorem w_c13 : (Jvm.Cond.code ({ cls := "java/lang/String", name := "coder", desc := "()B" } : Jvm.MethodName) jdk_42_method_152_code (1 : Nat) (Option.some Jvm.ClassFile.FieldType.byte)).before args0 about1 = true := code_word (m := ⟨7, 8⟩) (meth := k7m8) (c := k7c8) (by decide +kernel) rfl rfl rfl (by decide +kernel)
set_option maxRecDepth 65536 in
theorem w_c14 : (Jvm.Cond.code ({ cls := "java/lang/AbstractStringBuilder", name := "ensureCapacityInternal", desc := "(I)V" } : Jvm.MethodName) jdk_68_method_9_code (3 : Nat) (Option.none : Option Jvm.ClassFile.FieldType)).before args0 about1 = true := code_word (m := ⟨11, 3⟩) (meth := k11m3) (c := k11c3) (by decide +kernel) rfl rfl rfl (by decide +kernel)
set_option maxRecDepth 65536 in
theorem w_c15 : (Jvm.Cond.code ({ cls := "java/lang/AbstractStringBuilder", name := "putStringAt", desc := "(ILjava/lang/String;)V" } : Jvm.MethodName) jdk_68_method_73_code (3 : Nat) (Option.none : Option Jvm.ClassFile.FieldType)).before args0 about1 = true := code_word (m := ⟨11, 9⟩) (meth := k11m9) (c := k11c9) (by decide +kernel) rfl rfl rfl (by decide +kernel)
set_option maxRecDepth 65536 in
theorem w_c16 : (Jvm.Cond.code ({ cls := "java/lang/AbstractStringBuilder", name := "inflateIfNeededFor", desc := "(Ljava/lang/String;)V" } : Jvm.MethodName) jdk_68_method_71_code (2 : Nat) (Option.none : Option Jvm.ClassFile.FieldType)).before args0 about1 = true := code_word (m := ⟨11, 8⟩) (meth := k11m8) (c := k11c8) (by decide +kernel) rfl rfl rfl (by decide +kernel)
set_option maxRecDepth 65536 in
theorem w_c17 : (Jvm.Cond.code ({ cls := "java/lang/String", name := "getBytes", desc := "([BIB)V" } : Jvm.MethodName) jdk_42_method_147_code (4 : Nat) (Option.none : Option Jvm.ClassFile.FieldType)).before args0 about1 = true := code_word (m := ⟨7, 5⟩) (meth := k7m5) (c := k7c5) (by decide +kernel) rfl rfl rfl (by decide +kernel)
set_option maxRecDepth 65536 in
theorem w_c18 : (Jvm.Cond.code ({ cls := "java/lang/StringBuilder", name := "toString", desc := "()Ljava/lang/String;" } : Jvm.MethodName) jdk_67_method_42_code (1 : Nat) (Option.some (Jvm.ClassFile.FieldType.object "java/lang/String"))).before args0 about1 = true := code_word (m := ⟨12, 2⟩) (meth := k12m2) (c := k12c2) (by decide +kernel) rfl rfl rfl (by decide +kernel)
set_option maxRecDepth 65536 in
theorem w_c19 : (Jvm.Cond.code ({ cls := "java/lang/String", name := "<init>", desc := "(Ljava/lang/StringBuilder;)V" } : Jvm.MethodName) jdk_42_method_53_code (2 : Nat) (Option.none : Option Jvm.ClassFile.FieldType)).before args0 about1 = true := code_word (m := ⟨7, 2⟩) (meth := k7m2) (c := k7c2) (by decide +kernel) rfl rfl rfl (by decide +kernel)
set_option maxRecDepth 65536 in
theorem w_c20 : (Jvm.Cond.code ({ cls := "java/lang/String", name := "<init>", desc := "(Ljava/lang/AbstractStringBuilder;Ljava/lang/Void;)V" } : Jvm.MethodName) jdk_42_method_150_code (5 : Nat) (Option.none : Option Jvm.ClassFile.FieldType)).before args0 about1 = true := code_word (m := ⟨7, 7⟩) (meth := k7m7) (c := k7c7) (by decide +kernel) rfl rfl rfl (by decide +kernel)
set_option maxRecDepth 65536 in
theorem w_c21 : (Jvm.Cond.code ({ cls := "java/lang/AbstractStringBuilder", name := "getValue", desc := "()[B" } : Jvm.MethodName) jdk_68_method_64_code (1 : Nat) (Option.some (Jvm.ClassFile.FieldType.array Jvm.ClassFile.FieldType.byte))).before args0 about1 = true := code_word (m := ⟨11, 6⟩) (meth := k11m6) (c := k11c6) (by decide +kernel) rfl rfl rfl (by decide +kernel)
set_option maxRecDepth 65536 in
theorem w_c22 : (Jvm.Cond.code ({ cls := "java/lang/StringBuilder", name := "length", desc := "()I" } : Jvm.MethodName) jdk_67_method_93_code (1 : Nat) (Option.some Jvm.ClassFile.FieldType.int)).before args0 about1 = true := code_word (m := ⟨12, 3⟩) (meth := k12m3) (c := k12c3) (by decide +kernel) rfl rfl rfl (by decide +kernel)
set_option maxRecDepth 65536 in
theorem w_c23 : (Jvm.Cond.code ({ cls := "java/lang/AbstractStringBuilder", name := "length", desc := "()I" } : Jvm.MethodName) jdk_68_method_6_code (1 : Nat) (Option.some Jvm.ClassFile.FieldType.int)).before args0 about1 = true := code_word (m := ⟨11, 2⟩) (meth := k11m2) (c := k11c2) (by decide +kernel) rfl rfl rfl (by decide +kernel)
set_option maxRecDepth 65536 in
theorem w_c24 : (Jvm.Cond.code ({ cls := "java/lang/AbstractStringBuilder", name := "isLatin1", desc := "()Z" } : Jvm.MethodName) jdk_68_method_68_code (1 : Nat) (Option.some Jvm.ClassFile.FieldType.boolean)).before args0 about1 = true := code_word (m := ⟨11, 7⟩) (meth := k11m7) (c := k11c7) (by decide +kernel) rfl rfl rfl (by decide +kernel)
set_option maxRecDepth 65536 in
theorem w_c25 : (Jvm.Cond.code ({ cls := "java/util/Arrays", name := "copyOfRange", desc := "([BII)[B" } : Jvm.MethodName) jdk_65_method_132_code (3 : Nat) (Option.some (Jvm.ClassFile.FieldType.array Jvm.ClassFile.FieldType.byte))).before args0 about1 = true := code_word (m := ⟨14, 2⟩) (meth := k14m2) (c := k14c2) (by decide +kernel) rfl rfl rfl (by decide +kernel)
set_option maxRecDepth 65536 in
theorem w_c26 : (Jvm.Cond.code ({ cls := "java/util/Arrays", name := "copyOfRangeByte", desc := "([BII)[B" } : Jvm.MethodName) jdk_65_method_133_code (5 : Nat) (Option.some (Jvm.ClassFile.FieldType.array Jvm.ClassFile.FieldType.byte))).before args0 about1 = true := code_word (m := ⟨14, 3⟩) (meth := k14m3) (c := k14c3) (by decide +kernel) rfl rfl rfl (by decide +kernel)
set_option maxRecDepth 65536 in
theorem w_c27 : (Jvm.Cond.code ({ cls := "java/util/Arrays", name := "checkLength", desc := "(II)V" } : Jvm.MethodName) jdk_65_method_131_code (2 : Nat) (Option.none : Option Jvm.ClassFile.FieldType)).before args0 about1 = true := code_word (m := ⟨14, 1⟩) (meth := k14m1) (c := k14c1) (by decide +kernel) rfl rfl rfl (by decide +kernel)
set_option maxRecDepth 65536 in
theorem w_c28 : (Jvm.Cond.code ({ cls := "java/lang/Math", name := "min", desc := "(II)I" } : Jvm.MethodName) jdk_29_method_69_code (2 : Nat) (Option.some Jvm.ClassFile.FieldType.int)).before args0 about1 = true := code_word (m := ⟨15, 1⟩) (meth := k15m1) (c := k15c1) (by decide +kernel) rfl rfl rfl (by decide +kernel)
set_option maxRecDepth 65536 in
theorem w_c29 : (Jvm.Cond.code ({ cls := "com/example/web_whiteboard/webwhiteboard/context/ServletPattern", name := "<init>", desc := "(Ljava/lang/String;Lcom/example/web_whiteboard/webwhiteboard/context/ServletPattern$Kind;Ljava/lang/String;)V" } : Jvm.MethodName) prog_4_method_1_code (4 : Nat) (Option.none : Option Jvm.ClassFile.FieldType)).before args0 about1 = true := code_word (m := ⟨9, 0⟩) (meth := k9m0) (c := k9c0) (by decide +kernel) rfl rfl rfl (by decide +kernel)
set_option maxRecDepth 65536 in
theorem w_c30 : (Jvm.Cond.code ({ cls := "com/example/web_whiteboard/webwhiteboard/context/ServletPattern", name := "getPattern", desc := "()Ljava/lang/String;" } : Jvm.MethodName) prog_4_method_5_code (1 : Nat) (Option.some (Jvm.ClassFile.FieldType.object "java/lang/String"))).before args0 about1 = true := code_word (m := ⟨9, 2⟩) (meth := k9m2) (c := k9c2) (by decide +kernel) rfl rfl rfl (by decide +kernel)
set_option maxRecDepth 65536 in
theorem w_c31 : (Jvm.Cond.code ({ cls := "java/lang/String", name := "equals", desc := "(Ljava/lang/Object;)Z" } : Jvm.MethodName) jdk_42_method_66_code (3 : Nat) (Option.some Jvm.ClassFile.FieldType.boolean)).before args0 about1 = true := code_word (m := ⟨7, 4⟩) (meth := k7m4) (c := k7c4) (by decide +kernel) rfl rfl rfl (by decide +kernel)
set_option maxRecDepth 65536 in
theorem w_c32 : (Jvm.Cond.code ({ cls := "java/lang/StringLatin1", name := "equals", desc := "([B[B)Z" } : Jvm.MethodName) jdk_43_method_13_code (3 : Nat) (Option.some Jvm.ClassFile.FieldType.boolean)).before args0 about1 = true := code_word (m := ⟨18, 1⟩) (meth := k18m1) (c := k18c1) (by decide +kernel) rfl rfl rfl (by decide +kernel)
set_option maxRecDepth 65536 in
theorem w_c33 : (Jvm.Cond.code ({ cls := "com/example/web_whiteboard/webwhiteboard/context/ServletPattern", name := "getKind", desc := "()Lcom/example/web_whiteboard/webwhiteboard/context/ServletPattern$Kind;" } : Jvm.MethodName) prog_4_method_6_code (1 : Nat) (Option.some (Jvm.ClassFile.FieldType.object "com/example/web_whiteboard/webwhiteboard/context/ServletPattern$Kind"))).before args0 about1 = true := code_word (m := ⟨9, 3⟩) (meth := k9m3) (c := k9c3) (by decide +kernel) rfl rfl rfl (by decide +kernel)
set_option maxRecDepth 65536 in
theorem w_c34 : (Jvm.Cond.code ({ cls := "com/example/web_whiteboard/webwhiteboard/context/ServletPattern", name := "getStem", desc := "()Ljava/lang/String;" } : Jvm.MethodName) prog_4_method_7_code (1 : Nat) (Option.some (Jvm.ClassFile.FieldType.object "java/lang/String"))).before args0 about1 = true := code_word (m := ⟨9, 4⟩) (meth := k9m4) (c := k9c4) (by decide +kernel) rfl rfl rfl (by decide +kernel)
set_option maxRecDepth 65536 in
theorem w_c35 : (Jvm.Cond.code ({ cls := "java/lang/StringUTF16", name := "toBytes", desc := "([CII)[B" } : Jvm.MethodName) jdk_52_method_14_code (5 : Nat) (Option.some (Jvm.ClassFile.FieldType.array Jvm.ClassFile.FieldType.byte))).before args0 about1 = true := code_word (m := ⟨8, 6⟩) (meth := k8m6) (c := k8c6) (by decide +kernel) rfl rfl rfl (by decide +kernel)
set_option maxRecDepth 65536 in
theorem w_c36 : (Jvm.Cond.code ({ cls := "java/lang/StringUTF16", name := "newBytesFor", desc := "(I)[B" } : Jvm.MethodName) jdk_52_method_2_code (1 : Nat) (Option.some (Jvm.ClassFile.FieldType.array Jvm.ClassFile.FieldType.byte))).before args0 about1 = true := code_word (m := ⟨8, 1⟩) (meth := k8m1) (c := k8c1) (by decide +kernel) rfl rfl rfl (by decide +kernel)
set_option maxRecDepth 65536 in
theorem w_c37 : (Jvm.Cond.code ({ cls := "java/lang/StringUTF16", name := "newBytesLength", desc := "(I)I" } : Jvm.MethodName) jdk_52_method_3_code (1 : Nat) (Option.some Jvm.ClassFile.FieldType.int)).before args0 about1 = true := code_word (m := ⟨8, 2⟩) (meth := k8m2) (c := k8c2) (by decide +kernel) rfl rfl rfl (by decide +kernel)
set_option maxRecDepth 65536 in
theorem w_c38 : (Jvm.Cond.code ({ cls := "java/lang/StringUTF16", name := "putChar", desc := "([BII)V" } : Jvm.MethodName) jdk_52_method_4_code (3 : Nat) (Option.none : Option Jvm.ClassFile.FieldType)).before args0 about1 = true := code_word (m := ⟨8, 3⟩) (meth := k8m3) (c := k8c3) (by decide +kernel) rfl rfl rfl (by decide +kernel)
set_option maxRecDepth 65536 in
theorem w_c39 : (Jvm.Cond.code ({ cls := "java/lang/StringUTF16", name := "getChar", desc := "([BI)C" } : Jvm.MethodName) jdk_52_method_5_code (2 : Nat) (Option.some Jvm.ClassFile.FieldType.char)).before args0 about1 = true := code_word (m := ⟨8, 4⟩) (meth := k8m4) (c := k8c4) (by decide +kernel) rfl rfl rfl (by decide +kernel)
set_option maxRecDepth 65536 in
theorem w_c40 : (Jvm.Cond.code ({ cls := "java/lang/AbstractStringBuilder", name := "inflate", desc := "()V" } : Jvm.MethodName) jdk_68_method_11_code (2 : Nat) (Option.none : Option Jvm.ClassFile.FieldType)).before args0 about1 = true := code_word (m := ⟨11, 4⟩) (meth := k11m4) (c := k11c4) (by decide +kernel) rfl rfl rfl (by decide +kernel)
set_option maxRecDepth 65536 in
theorem w_c41 : (Jvm.Cond.code ({ cls := "java/lang/StringLatin1", name := "inflate", desc := "([BI[BII)V" } : Jvm.MethodName) jdk_43_method_50_code (5 : Nat) (Option.none : Option Jvm.ClassFile.FieldType)).before args0 about1 = true := code_word (m := ⟨18, 2⟩) (meth := k18m2) (c := k18c2) (by decide +kernel) rfl rfl rfl (by decide +kernel)
set_option maxRecDepth 65536 in
theorem w_c42 : (Jvm.Cond.code ({ cls := "java/lang/StringUTF16", name := "inflate", desc := "([BI[BII)V" } : Jvm.MethodName) jdk_52_method_86_code (6 : Nat) (Option.none : Option Jvm.ClassFile.FieldType)).before args0 about1 = true := code_word (m := ⟨8, 10⟩) (meth := k8m10) (c := k8c10) (by decide +kernel) rfl rfl rfl (by decide +kernel)
set_option maxRecDepth 65536 in
theorem w_c43 : (Jvm.Cond.code ({ cls := "java/lang/StringUTF16", name := "checkBoundsOffCount", desc := "(II[B)V" } : Jvm.MethodName) jdk_52_method_94_code (3 : Nat) (Option.none : Option Jvm.ClassFile.FieldType)).before args0 about1 = true := code_word (m := ⟨8, 11⟩) (meth := k8m11) (c := k8c11) (by decide +kernel) rfl rfl rfl (by decide +kernel)
set_option maxRecDepth 65536 in
theorem w_c44 : (Jvm.Cond.code ({ cls := "java/lang/StringUTF16", name := "length", desc := "([B)I" } : Jvm.MethodName) jdk_52_method_6_code (1 : Nat) (Option.some Jvm.ClassFile.FieldType.int)).before args0 about1 = true := code_word (m := ⟨8, 5⟩) (meth := k8m5) (c := k8c5) (by decide +kernel) rfl rfl rfl (by decide +kernel)
set_option maxRecDepth 65536 in
theorem w_c45 : (Jvm.Cond.code ({ cls := "java/lang/String", name := "checkBoundsOffCount", desc := "(III)I" } : Jvm.MethodName) jdk_42_method_157_code (3 : Nat) (Option.some Jvm.ClassFile.FieldType.int)).before args0 about1 = true := code_word (m := ⟨7, 9⟩) (meth := k7m9) (c := k7c9) (by decide +kernel) rfl rfl rfl (by decide +kernel)
set_option maxRecDepth 65536 in
theorem w_c46 : (Jvm.Cond.code ({ cls := "jdk/internal/util/Preconditions", name := "checkFromIndexSize", desc := "(IIILjava/util/function/BiFunction;)I" } : Jvm.MethodName) jdk_41_method_13_code (4 : Nat) (Option.some Jvm.ClassFile.FieldType.int)).before args0 about1 = true := code_word (m := ⟨19, 1⟩) (meth := k19m1) (c := k19c1) (by decide +kernel) rfl rfl rfl (by decide +kernel)
def codes1 : List Jvm.Cond := [Jvm.Cond.code x code maxLocals ret, Jvm.Cond.code ({ cls := "java/lang/String", name := "<init>", desc := "([C)V" } : Jvm.MethodName) jdk_42_method_3_code (2 : Nat) (Option.none : Option Jvm.ClassFile.FieldType), Jvm.Cond.code ({ cls := "java/lang/String", name := "<init>", desc := "([CIILjava/lang/Void;)V" } : Jvm.MethodName) jdk_42_method_149_code (6 : Nat) (Option.none : Option Jvm.ClassFile.FieldType), Jvm.Cond.code ({ cls := "java/lang/Object", name := "<init>", desc := "()V" } : Jvm.MethodName) object_method_1_code (1 : Nat) (Option.none : Option Jvm.ClassFile.FieldType), Jvm.Cond.code ({ cls := "java/lang/StringUTF16", name := "compress", desc := "([CII)[B" } : Jvm.MethodName) jdk_52_method_16_code (6 : Nat) (Option.some (Jvm.ClassFile.FieldType.array Jvm.ClassFile.FieldType.byte)), Jvm.Cond.code ({ cls := "java/lang/StringUTF16", name := "compress", desc := "([CI[BII)I" } : Jvm.MethodName) jdk_52_method_21_code (7 : Nat) (Option.some Jvm.ClassFile.FieldType.int), Jvm.Cond.code ({ cls := "java/lang/StringUTF16", name := "coderFromArrayLen", desc := "([BI)B" } : Jvm.MethodName) jdk_52_method_15_code (2 : Nat) (Option.some Jvm.ClassFile.FieldType.byte), Jvm.Cond.code ({ cls := "com/example/web_whiteboard/webwhiteboard/context/ServletPattern", name := "below", desc := "(Ljava/lang/String;)Lcom/example/web_whiteboard/webwhiteboard/context/ServletPattern;" } : Jvm.MethodName) prog_4_method_3_code (1 : Nat) (Option.some (Jvm.ClassFile.FieldType.object "com/example/web_whiteboard/webwhiteboard/context/ServletPattern")), Jvm.Cond.code ({ cls := "java/lang/StringBuilder", name := "<init>", desc := "()V" } : Jvm.MethodName) jdk_67_method_1_code (1 : Nat) (Option.none : Option Jvm.ClassFile.FieldType), Jvm.Cond.code ({ cls := "java/lang/AbstractStringBuilder", name := "<init>", desc := "(I)V" } : Jvm.MethodName) jdk_68_method_2_code (2 : Nat) (Option.none : Option Jvm.ClassFile.FieldType), Jvm.Cond.code ({ cls := "java/lang/StringBuilder", name := "append", desc := "(Ljava/lang/String;)Ljava/lang/StringBuilder;" } : Jvm.MethodName) jdk_67_method_7_code (2 : Nat) (Option.some (Jvm.ClassFile.FieldType.object "java/lang/StringBuilder")), Jvm.Cond.code ({ cls := "java/lang/AbstractStringBuilder", name := "append", desc := "(Ljava/lang/String;)Ljava/lang/AbstractStringBuilder;" } : Jvm.MethodName) jdk_68_method_22_code (3 : Nat) (Option.some (Jvm.ClassFile.FieldType.object "java/lang/AbstractStringBuilder")), Jvm.Cond.code ({ cls := "java/lang/String", name := "length", desc := "()I" } : Jvm.MethodName) jdk_42_method_54_code (1 : Nat) (Option.some Jvm.ClassFile.FieldType.int), Jvm.Cond.code ({ cls := "java/lang/String", name := "coder", desc := "()B" } : Jvm.MethodName) jdk_42_method_152_code (1 : Nat) (Option.some Jvm.ClassFile.FieldType.byte), Jvm.Cond.code ({ cls := "java/lang/AbstractStringBuilder", name := "ensureCapacityInternal", desc := "(I)V" } : Jvm.MethodName) jdk_68_method_9_code (3 : Nat) (Option.none : Option Jvm.ClassFile.FieldType), Jvm.Cond.code ({ cls := "java/lang/AbstractStringBuilder", name := "putStringAt", desc := "(ILjava/lang/String;)V" } : Jvm.MethodName) jdk_68_method_73_code (3 : Nat) (Option.none : Option Jvm.ClassFile.FieldType), Jvm.Cond.code ({ cls := "java/lang/AbstractStringBuilder", name := "inflateIfNeededFor", desc := "(Ljava/lang/String;)V" } : Jvm.MethodName) jdk_68_method_71_code (2 : Nat) (Option.none : Option Jvm.ClassFile.FieldType), Jvm.Cond.code ({ cls := "java/lang/String", name := "getBytes", desc := "([BIB)V" } : Jvm.MethodName) jdk_42_method_147_code (4 : Nat) (Option.none : Option Jvm.ClassFile.FieldType), Jvm.Cond.code ({ cls := "java/lang/StringBuilder", name := "toString", desc := "()Ljava/lang/String;" } : Jvm.MethodName) jdk_67_method_42_code (1 : Nat) (Option.some (Jvm.ClassFile.FieldType.object "java/lang/String")), Jvm.Cond.code ({ cls := "java/lang/String", name := "<init>", desc := "(Ljava/lang/StringBuilder;)V" } : Jvm.MethodName) jdk_42_method_53_code (2 : Nat) (Option.none : Option Jvm.ClassFile.FieldType), Jvm.Cond.code ({ cls := "java/lang/String", name := "<init>", desc := "(Ljava/lang/AbstractStringBuilder;Ljava/lang/Void;)V" } : Jvm.MethodName) jdk_42_method_150_code (5 : Nat) (Option.none : Option Jvm.ClassFile.FieldType), Jvm.Cond.code ({ cls := "java/lang/AbstractStringBuilder", name := "getValue", desc := "()[B" } : Jvm.MethodName) jdk_68_method_64_code (1 : Nat) (Option.some (Jvm.ClassFile.FieldType.array Jvm.ClassFile.FieldType.byte)), Jvm.Cond.code ({ cls := "java/lang/StringBuilder", name := "length", desc := "()I" } : Jvm.MethodName) jdk_67_method_93_code (1 : Nat) (Option.some Jvm.ClassFile.FieldType.int), Jvm.Cond.code ({ cls := "java/lang/AbstractStringBuilder", name := "length", desc := "()I" } : Jvm.MethodName) jdk_68_method_6_code (1 : Nat) (Option.some Jvm.ClassFile.FieldType.int), Jvm.Cond.code ({ cls := "java/lang/AbstractStringBuilder", name := "isLatin1", desc := "()Z" } : Jvm.MethodName) jdk_68_method_68_code (1 : Nat) (Option.some Jvm.ClassFile.FieldType.boolean), Jvm.Cond.code ({ cls := "java/util/Arrays", name := "copyOfRange", desc := "([BII)[B" } : Jvm.MethodName) jdk_65_method_132_code (3 : Nat) (Option.some (Jvm.ClassFile.FieldType.array Jvm.ClassFile.FieldType.byte)), Jvm.Cond.code ({ cls := "java/util/Arrays", name := "copyOfRangeByte", desc := "([BII)[B" } : Jvm.MethodName) jdk_65_method_133_code (5 : Nat) (Option.some (Jvm.ClassFile.FieldType.array Jvm.ClassFile.FieldType.byte)), Jvm.Cond.code ({ cls := "java/util/Arrays", name := "checkLength", desc := "(II)V" } : Jvm.MethodName) jdk_65_method_131_code (2 : Nat) (Option.none : Option Jvm.ClassFile.FieldType), Jvm.Cond.code ({ cls := "java/lang/Math", name := "min", desc := "(II)I" } : Jvm.MethodName) jdk_29_method_69_code (2 : Nat) (Option.some Jvm.ClassFile.FieldType.int), Jvm.Cond.code ({ cls := "com/example/web_whiteboard/webwhiteboard/context/ServletPattern", name := "<init>", desc := "(Ljava/lang/String;Lcom/example/web_whiteboard/webwhiteboard/context/ServletPattern$Kind;Ljava/lang/String;)V" } : Jvm.MethodName) prog_4_method_1_code (4 : Nat) (Option.none : Option Jvm.ClassFile.FieldType), Jvm.Cond.code ({ cls := "com/example/web_whiteboard/webwhiteboard/context/ServletPattern", name := "getPattern", desc := "()Ljava/lang/String;" } : Jvm.MethodName) prog_4_method_5_code (1 : Nat) (Option.some (Jvm.ClassFile.FieldType.object "java/lang/String")), Jvm.Cond.code ({ cls := "java/lang/String", name := "equals", desc := "(Ljava/lang/Object;)Z" } : Jvm.MethodName) jdk_42_method_66_code (3 : Nat) (Option.some Jvm.ClassFile.FieldType.boolean), Jvm.Cond.code ({ cls := "java/lang/StringLatin1", name := "equals", desc := "([B[B)Z" } : Jvm.MethodName) jdk_43_method_13_code (3 : Nat) (Option.some Jvm.ClassFile.FieldType.boolean), Jvm.Cond.code ({ cls := "com/example/web_whiteboard/webwhiteboard/context/ServletPattern", name := "getKind", desc := "()Lcom/example/web_whiteboard/webwhiteboard/context/ServletPattern$Kind;" } : Jvm.MethodName) prog_4_method_6_code (1 : Nat) (Option.some (Jvm.ClassFile.FieldType.object "com/example/web_whiteboard/webwhiteboard/context/ServletPattern$Kind")), Jvm.Cond.code ({ cls := "com/example/web_whiteboard/webwhiteboard/context/ServletPattern", name := "getStem", desc := "()Ljava/lang/String;" } : Jvm.MethodName) prog_4_method_7_code (1 : Nat) (Option.some (Jvm.ClassFile.FieldType.object "java/lang/String")), Jvm.Cond.code ({ cls := "java/lang/StringUTF16", name := "toBytes", desc := "([CII)[B" } : Jvm.MethodName) jdk_52_method_14_code (5 : Nat) (Option.some (Jvm.ClassFile.FieldType.array Jvm.ClassFile.FieldType.byte)), Jvm.Cond.code ({ cls := "java/lang/StringUTF16", name := "newBytesFor", desc := "(I)[B" } : Jvm.MethodName) jdk_52_method_2_code (1 : Nat) (Option.some (Jvm.ClassFile.FieldType.array Jvm.ClassFile.FieldType.byte)), Jvm.Cond.code ({ cls := "java/lang/StringUTF16", name := "newBytesLength", desc := "(I)I" } : Jvm.MethodName) jdk_52_method_3_code (1 : Nat) (Option.some Jvm.ClassFile.FieldType.int), Jvm.Cond.code ({ cls := "java/lang/StringUTF16", name := "putChar", desc := "([BII)V" } : Jvm.MethodName) jdk_52_method_4_code (3 : Nat) (Option.none : Option Jvm.ClassFile.FieldType), Jvm.Cond.code ({ cls := "java/lang/StringUTF16", name := "getChar", desc := "([BI)C" } : Jvm.MethodName) jdk_52_method_5_code (2 : Nat) (Option.some Jvm.ClassFile.FieldType.char), Jvm.Cond.code ({ cls := "java/lang/AbstractStringBuilder", name := "inflate", desc := "()V" } : Jvm.MethodName) jdk_68_method_11_code (2 : Nat) (Option.none : Option Jvm.ClassFile.FieldType), Jvm.Cond.code ({ cls := "java/lang/StringLatin1", name := "inflate", desc := "([BI[BII)V" } : Jvm.MethodName) jdk_43_method_50_code (5 : Nat) (Option.none : Option Jvm.ClassFile.FieldType), Jvm.Cond.code ({ cls := "java/lang/StringUTF16", name := "inflate", desc := "([BI[BII)V" } : Jvm.MethodName) jdk_52_method_86_code (6 : Nat) (Option.none : Option Jvm.ClassFile.FieldType), Jvm.Cond.code ({ cls := "java/lang/StringUTF16", name := "checkBoundsOffCount", desc := "(II[B)V" } : Jvm.MethodName) jdk_52_method_94_code (3 : Nat) (Option.none : Option Jvm.ClassFile.FieldType), Jvm.Cond.code ({ cls := "java/lang/StringUTF16", name := "length", desc := "([B)I" } : Jvm.MethodName) jdk_52_method_6_code (1 : Nat) (Option.some Jvm.ClassFile.FieldType.int), Jvm.Cond.code ({ cls := "java/lang/String", name := "checkBoundsOffCount", desc := "(III)I" } : Jvm.MethodName) jdk_42_method_157_code (3 : Nat) (Option.some Jvm.ClassFile.FieldType.int), Jvm.Cond.code ({ cls := "jdk/internal/util/Preconditions", name := "checkFromIndexSize", desc := "(IIILjava/util/function/BiFunction;)I" } : Jvm.MethodName) jdk_41_method_13_code (4 : Nat) (Option.some Jvm.ClassFile.FieldType.int)]
set_option maxRecDepth 65536 in
theorem codes_eq : words1.filter isCode = codes1 := rfl
theorem w_codes : ∀ c ∈ words1.filter isCode, c.before args0 about1 = true := by
  rw [codes_eq]
  intro c hc
  simp only [codes1, List.mem_cons, List.not_mem_nil, or_false] at hc
  rcases hc with rfl | rfl | rfl | rfl | rfl | rfl | rfl | rfl | rfl | rfl | rfl | rfl | rfl | rfl | rfl | rfl | rfl | rfl | rfl | rfl | rfl | rfl | rfl | rfl | rfl | rfl | rfl | rfl | rfl | rfl | rfl | rfl | rfl | rfl | rfl | rfl | rfl | rfl | rfl | rfl | rfl | rfl | rfl | rfl | rfl | rfl | rfl
  · exact w_c0
  · exact w_c1
  · exact w_c2
  · exact w_c3
  · exact w_c4
  · exact w_c5
  · exact w_c6
  · exact w_c7
  · exact w_c8
  · exact w_c9
  · exact w_c10
  · exact w_c11
  · exact w_c12
  · exact w_c13
  · exact w_c14
  · exact w_c15
  · exact w_c16
  · exact w_c17
  · exact w_c18
  · exact w_c19
  · exact w_c20
  · exact w_c21
  · exact w_c22
  · exact w_c23
  · exact w_c24
  · exact w_c25
  · exact w_c26
  · exact w_c27
  · exact w_c28
  · exact w_c29
  · exact w_c30
  · exact w_c31
  · exact w_c32
  · exact w_c33
  · exact w_c34
  · exact w_c35
  · exact w_c36
  · exact w_c37
  · exact w_c38
  · exact w_c39
  · exact w_c40
  · exact w_c41
  · exact w_c42
  · exact w_c43
  · exact w_c44
  · exact w_c45
  · exact w_c46
set_option maxRecDepth 65536 in
theorem w_t1 : (words1.take 24).all (fun c => isCode c || c.before args0 about1) = true := by decide +kernel
set_option maxRecDepth 65536 in
theorem w_t2 : ((words1.drop 24).take 24).all (fun c => isCode c || c.before args0 about1) = true := by decide +kernel
set_option maxRecDepth 65536 in
theorem w_t3 : (((words1.drop 24).drop 24).take 24).all (fun c => isCode c || c.before args0 about1) = true := by decide +kernel
set_option maxRecDepth 65536 in
theorem w_t4 : ((((words1.drop 24).drop 24).drop 24).take 24).all (fun c => isCode c || c.before args0 about1) = true := by decide +kernel
set_option maxRecDepth 65536 in
theorem w_t5 : (((((words1.drop 24).drop 24).drop 24).drop 24).take 24).all (fun c => isCode c || c.before args0 about1) = true := by decide +kernel
set_option maxRecDepth 65536 in
theorem w_t6 : ((((((words1.drop 24).drop 24).drop 24).drop 24).drop 24).take 24).all (fun c => isCode c || c.before args0 about1) = true := by decide +kernel
set_option maxRecDepth 65536 in
theorem w_t7 : (((((((words1.drop 24).drop 24).drop 24).drop 24).drop 24).drop 24).take 24).all (fun c => isCode c || c.before args0 about1) = true := by decide +kernel
set_option maxRecDepth 65536 in
theorem w_t8 : ((((((((words1.drop 24).drop 24).drop 24).drop 24).drop 24).drop 24).drop 24).take 24).all (fun c => isCode c || c.before args0 about1) = true := by decide +kernel
set_option maxRecDepth 65536 in
theorem w_t9 : (((((((((words1.drop 24).drop 24).drop 24).drop 24).drop 24).drop 24).drop 24).drop 24).take 24).all (fun c => isCode c || c.before args0 about1) = true := by decide +kernel
set_option maxRecDepth 65536 in
theorem w_t10 : (((((((((words1.drop 24).drop 24).drop 24).drop 24).drop 24).drop 24).drop 24).drop 24).drop 24).all (fun c => isCode c || c.before args0 about1) = true := by decide +kernel
theorem w_tables : (allAtoms (Jvm.Cond.code x code maxLocals ret :: tables_1)).before args0 about1 = true := by
  rw [allAtoms_all]
  show words1.all (fun c => c.before args0 about1) = true
  refine all_split ?_ w_codes
  rw [← List.take_append_drop 24 words1, List.all_append, w_t1, ← List.take_append_drop 24 (words1.drop 24), List.all_append, w_t2, ← List.take_append_drop 24 ((words1.drop 24).drop 24), List.all_append, w_t3, ← List.take_append_drop 24 (((words1.drop 24).drop 24).drop 24), List.all_append, w_t4, ← List.take_append_drop 24 ((((words1.drop 24).drop 24).drop 24).drop 24), List.all_append, w_t5, ← List.take_append_drop 24 (((((words1.drop 24).drop 24).drop 24).drop 24).drop 24), List.all_append, w_t6, ← List.take_append_drop 24 ((((((words1.drop 24).drop 24).drop 24).drop 24).drop 24).drop 24), List.all_append, w_t7, ← List.take_append_drop 24 (((((((words1.drop 24).drop 24).drop 24).drop 24).drop 24).drop 24).drop 24), List.all_append, w_t8, ← List.take_append_drop 24 ((((((((words1.drop 24).drop 24).drop 24).drop 24).drop 24).drop 24).drop 24).drop 24), List.all_append, w_t9, w_t10]
  rfl
set_option maxRecDepth 65536 in
theorem w_rest : rest_1_c.before args0 about1 = true := by decide +kernel
set_option maxRecDepth 65536 in
theorem w_case : (Jvm.Cond.and given_1 narrow_1).before args0 about1 = true := by decide +kernel
set_option maxRecDepth 65536 in
theorem w_consts : constsHeld consts_1 about1 := Jvm.Lit.constsHeldB_iff.mp (by decide +kernel)
theorem w_applies : (headSpec (Jvm.Cond.code x code maxLocals ret :: tables_1) room_1).applies x e0.platform about1 = true :=
  (Spec.applies_iff w_frames).mpr ⟨w_running, w_runnable, w_alone, w_named, w_hears, w_ripe, w_room, w_tables⟩
theorem atStart : AtStart classFile x code maxLocals ret World_1 tables_1 room_1 Calls_1 rest_1 Pre_1 launch0 p0 e0 about1 theMethod args0 below0 :=
  ⟨lists_1, trivial, launch0.admits_env _ _ _, launch0.least_env, fairChoices_fair.cas, fairChoices_fair.clock, w_frames, w_args, w_heap, w_applies, ⟨w_consts, trivial⟩, w_rest, w_case⟩
end start1
theorem witness_1 : WitnessClaimed_1 := ⟨start1.p0, start1.e0, start1.about1, start1.theMethod, start1.args0, start1.below0, start1.atStart⟩
end Jvm.Pilot.@@N@@
